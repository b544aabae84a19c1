/- Part 27 of the proof of fnBatchSeenTwice_card. Conditions: none. -/
import Derived.Test.YtpkoddfamelnhaaGreatDoorT26
set_option linter.unusedVariables false
set_option linter.unusedSimpArgs false
namespace Go.Proofs.YtpkoddfamelnhaaGreatDoor
open Go Go.Tr
set_option maxRecDepth 100000
theorem RowsOK.mono {D D' : Hp} (hd : D.le D') {qs : List SpanM} {r : Nat} {t0 : ByteArray} {X : Nat -> SpC} (h : RowsOK D qs r t0 X) : RowsOK D' qs r t0 X := fun j q hj hq => (h j q hj hq).mono hd
theorem SpsRel.getD {D} {xs : List SpC} {ps : List SpanM} (h : SpsRel D xs ps) {j : Nat} (hj : j < ps.length) : SpRel D (xs.getD j xpd) (ps.getD j spd) := by
 have hl := h.len
 refine h.get j _ _ ?_ ?_
 ·rw [List.getD_eq_getElem?_getD, List.getElem?_eq_getElem om]; rfl
 ·rw [List.getD_eq_getElem?_getD, List.getElem?_eq_getElem hj]; rfl
set_option maxHeartbeats 2000000 in
theorem spec111 {E : EmitI} {f a : Addr} {ba : Option Addr} {s : FrS} {D : Hp} {l : List SpanM} {xs : List SpC} {ps : List SpanM} {x0 t : ByteArray} {n c : Nat} {R w} {K : Unit -> WP} (hps : SpsRel D xs ps) (hn : ps.length = n) (hin : FlIn x0 t ps) (hx0 : x0.size < 2^40) (hba : 0 < n -> ba = some a) (hnc : n <= c)
  (hl : l.length + n < 2^32) (h : Sat w (Rws a 4 n (fun j => spc (xs.getD j xpd)) :: FL f E s D l R))
  (k : ∀ D' fl g s' w', D.le D' -> Flushed x0 ps fl t -> fl.length <= n -> (∀ j, j < n -> (g j).length = 4) -> s'.pend = s.pend -> s'.done = s.done -> s'.fk = s.fk -> s'.fin = s.fin -> Sat w' (Rws a 4 n g :: FL f E s' D' (l ++ fl) R) -> K () w') : F111 (some f) ⟨ba, n, c⟩ nl K w := by
 have hn30 : n < 2^30 := by rw [<- hn]; exact hin.n
 unfold F111
 refine ⟨fun _ w => Sat w (Rws a 4 n (fun j => spc (xs.getD j xpd)) :: FL f E s D l R), ?_, h⟩
 clear h
 intro _ w h
 unfold FL at h
 refine ⟨_, rfl, Ld1 h ⟨_, rfl, St1 h rfl fun w h => ⟨_, rfl, St1 h rfl fun w h => ⟨_, rfl, ?_⟩⟩⟩⟩
 have hn60 : n < 2^60 := by omega
 have h1 := ((h.mv 7).mv 3).mv 2
 simp only [mv] at h1
 have hs : Sat w ((endI D (f.add 5) a ⟨ba, n, c⟩ hba hn60).St (fun j => (xs.getD j xpd, ps.getD j spd)) ++ (Arr f [cmpV, s.fmt.enc, E.em.enc, .slice s.pend.a s.pend.n s.pend.c, .slice s.done.a s.done.n s.done.c] :: Arr (f.add 7) [.slice s.fb.a s.fb.n s.fb.c] :: Arr (f.add 8) [.slice s.fk.a s.fk.n s.fk.c] :: Arr (f.add 9) [.bool s.fin] :: Buf 3 s.fb s.fbc :: E.C D l :: R)) :=
  spShut (fun j hj => hps.getD (by have hj' : j < n := hj; omega)) h1
 clear h h1
 refine call88 (data1 := .mk 328 (.pointer (some (f.add 5)))) (spec88 (I := endI D (f.add 5) a ⟨ba, n, c⟩ hba hn60) endSWO (fun w K hs k => end_len w K hs k) hs fun d' w hsm hso h => ?_)
 clear hs
 obtain ⟨hr0, h3⟩ := spOpen (show Sat w (spRows D a n d' :: Arr (f.add 5) [cmpV, .slice ba n c] :: Own D :: Arr f [cmpV, s.fmt.enc, E.em.enc, .slice s.pend.a s.pend.n s.pend.c, .slice s.done.a s.done.n s.done.c] :: Arr (f.add 7) [.slice s.fb.a s.fb.n s.fb.c] :: Arr (f.add 8) [.slice s.fk.a s.fk.n s.fk.c] :: Arr (f.add 9) [.bool s.fin] :: Buf 3 s.fb s.fbc :: E.C D l :: R) from h)
 clear h
 have h4 : Sat w (Rws a 4 n (fun j => spc (d' j).1) :: FL f E { s with sbc := .mk (.func 45) #[] #[], sbuf := ⟨ba, n, c⟩ } D l R) := (((((((((h3.mv 8).mv 3).mv 8).mv 8).mv 8).mv 8).mv 7).mv 8).mv 8)
 clear h3
 obtain ⟨qs, X0, hqn, hqp, hX0, hqso, h5⟩ : ∃ (qs : List SpanM) (X0 : Nat -> SpC), qs.length = n /\ qs.Perm ps /\ RowsOK D qs 0 x0 X0 /\ (∀ (i j : Nat) (x y : SpanM), i < j -> qs[i]? = some x -> qs[j]? = some y -> bcmp x.hi y.hi <= 0) /\
   Sat w (Rws a 4 n (fun j => spc (X0 j)) :: FL f E { s with sbc := .mk (.func 45) #[] #[], sbuf := ⟨ba, n, c⟩ } D l R) := by
  have hperm : ((List.range n).map fun j => (d' j).2).Perm ps := by
   have h1 := (hsm.perm).map Prod.snd
   rw [List.map_map, List.map_map] at h1
   have e : (List.range n).map (Prod.snd ∘ fun j => (xs.getD j xpd, ps.getD j spd)) = ps := by
    have := range_getD spd ps
    rw [hn] at this
    exact this
   have h2 : ((List.range n).map (Prod.snd ∘ d')).Perm ((List.range n).map (Prod.snd ∘ fun j => (xs.getD j xpd, ps.getD j spd))) := h1
   rw [e] at h2
   exact h2
  have hget : ∀ (j : Nat) (q : SpanM), ((List.range n).map fun j => (d' j).2)[j]? = some q -> j < n /\ (d' j).2 = q := fun j q hq => by
   have hj : j < n := by have := (List.getElem?_eq_some_iff.1 hq).1; simpa using this
   rw [List.getElem?_map, List.getElem?_range hj] at hq
   exact ⟨hj, by simpa using hq⟩
  refine ⟨(List.range n).map (fun j => (d' j).2), fun j => (d' j).1, by simp, hperm, fun j q _ hq => ?_, fun i j x y hij hx hy => ?_, h4⟩
  ·obtain ⟨hj, e⟩ := hget j q hq
   have h1 := hr0 j hj
   have h2 := hin.lo q (hperm.mem_iff.1 (List.mem_of_getElem? hq))
   rw [e, show q = ⟨x0, q.hi, q.keys⟩ by rw [<- h2.1]] at h1
   exact h1
  ·obtain ⟨hi, rfl⟩ := hget i x hx
   obtain ⟨hj, rfl⟩ := hget j y hy
   have h1 := hso i j (Nat.zero_le _) hij hj
   simp only [endI, decide_eq_false_iff_not] at h1
   exact not_lt_b.1 h1
 clear h4 hr0 hso hsm
 have hqin : ∀ (j : Nat) (q : SpanM), qs[j]? = some q -> q ∈ ps := fun j q hq => hqp.mem_iff.1 (List.mem_of_getElem? hq)
 have hqkn : (qs.flatMap (·.keys)).length < 2^30 := by rw [(hqp.flatMap_right (·.keys)).length_eq]; exact hin.kn
 have hqnd : ((qs.flatMap (·.keys)).map (·.tr)).Nodup := ((hqp.flatMap_right (·.keys)).map (·.tr)).nodup_iff.2 hin.nd
 refine ⟨fun m (z : Sl) w => ∃ (r : Nat) (X : Nat -> SpC) (D' : Hp) (fl : List SpanM) (t0 : ByteArray) (s' : FrS), m = n - r /\ r <= n /\ z.n = n - r /\ z.c = c - r /\ (r < n -> z.a = some (a.add (r * 4))) /\ D.le D' /\ RowsOK D' qs r t0 X /\ FlMid x0 t qs r t0 fl /\
   s'.pend = s.pend /\ s'.done = s.done /\ s'.fk = s.fk /\ s'.fin = s.fin /\ Sat w (Rws a 4 n (fun j => spc (X j)) :: FL f E s' D' (l ++ fl) R),
  ⟨_, 0, X0, D, [], x0, { s with sbc := .mk (.func 45) #[] #[], sbuf := ⟨ba, n, c⟩ }, rfl, Nat.zero_le _, rfl, rfl, fun h0 => by rw [Nat.zero_mul]; exact hba h0, Hp.le_refl _, hX0, ?_, rfl, rfl, rfl, rfl, by rw [List.append_nil]; exact h5⟩, ?_⟩
 ·refine ⟨fun j q _ hq => (hin.lo q (hqin j q hq)).2, fun j q hj => by omega, le_refl_b x0, hx0, SpansOK.nil, fun f hf => by simp at hf, fun f hf => by simp at hf, fun y h1 h2 => absurd h1 (not_le_b.2 h2), Nat.le_refl _⟩
 clear h5
 rintro m ⟨za, zn, zc⟩ w ⟨r, X, D', fl, t0, s', rfl, hrn, e1, e2, hza, hD, hX, hmid, p1, p2, p3, p4, h'⟩
 dsimp only at e1 e2 hza |-
 subst e1 e2
 refine ifd (fun hpos => ?_) (fun hz => ?_)
 rotate_left
 ·exact k D' fl (fun j => spc (X j)) s' w hD (hmid.done om hqp) (by have := hmid.n; omega) (fun j _ => rfl) p1 p2 p3 p4 h'
 have hrn' : r < n := by omega
 rw [hza hrn']
 have hq : qs[r]? = some qs[r] := List.getElem?_eq_getElem om
 generalize qs[r] = q at hq
 have hqp' := hqin r q hq
 have hXr := hX r q (Nat.le_refl _) hq
 have hrow : ∀ {w s D l} {X : Nat -> SpC}, Sat w (Rws a 4 n (fun j => spc (X j)) :: FL f E s D l R) -> ∀ (i m : Nat) (v : Value), r + i < n -> (spc (X (r + i)))[m]? = some v -> w.cell? (((a.add (r * 4)).add (i * 4)).add m) = some v := fun {w s D l X} h i m v hi e => by
  rw [addm]; exact rowCell (f := fun j => spc (X j)) h hi e
 have h := h'
 unfold FL at h
 refine ⟨⟨by omega, by omega⟩, _, rfl, LdC (hrow (h'.near (w' := w.drew)) 0 1 _ om rfl) ?_⟩
 refine ⟨_, rfl, Ld1 h ⟨⟨by omega, by dsimp only; omega⟩, ?_⟩⟩
 rw [Nat.add_zero]
 refine flushKeys (s := s') hqn hn30 hrn' hX hq hqso hqkn (h'.near (w' := w.drew)) fun rem acc fb w hr1 hr2 heq hrel hfb hal h' => ?_
 clear h
 have h := h'
 unfold FL at h
 refine ⟨_, rfl, ?_⟩
 refine sortFlush (v := f.add 7) hfb om (((h.mv 3).mv 6)) fun out w hout h => ?_
 have h7 : Sat w (Rws a 4 n (fun j => spc (X j)) :: FL f E { s' with fb := fb, fbc := out.flatMap kcells } D' (l ++ fl) R) := (h.pt 6).pt 3
 clear h h'
 have hout' := hout.perm
 have hol : out.length = acc.length := hout'.length_eq
 have h := h7
 unfold FL at h
 refine ⟨_, rfl, Ld1 h ⟨⟨by omega, by omega⟩, _, rfl, LdC (hrow h7 0 0 _ om rfl) ⟨_, rfl, Ld1 h ?_⟩⟩⟩
 obtain ⟨g6, hg6, hgg, _⟩ := h.mv 6
 have hrdK : RdS w fb.a (fb.n * 3) (out.flatMap kcells) := by
  unfold Buf at hg6
  cases hfa : fb.a with
  | none => rw [hfa] at hg6; exact hg6.2.2.1
  | some b =>
   rw [hfa] at hg6
   obtain ⟨g1, sp, g2, g3⟩ := hg6
   exact ⟨g1, RdL.left (ys := sp) fun j v e => (hgg _ _ (g3.1 j v e)).1⟩
 refine AppP_run (s := si109) (w := w) (d := nl) (x := fb) (old := []) (new := out.flatMap kcells) (h.bufNil 3) hrdK (by rw [kcells_flat_len, hol, hfb]; rfl) (fun v hv => ?_) (by show (2 * (0 + fb.n) + 1024) * 56 <= _; omega) (by show 0 + fb.n <= _; omega) fun a45 w er ea h => ?_
 ·simp only [List.mem_flatMap] at hv
  obtain ⟨y, _, hy⟩ := hv
  exact kcells_one y v hy
 replace er : a45.n = 0 + fb.n := er
 have hrw := hrow (X := X) h.tail 0 0 _ om rfl
 refine ⟨hrw, LdAt1 h, ?_⟩
 rw [Nat.add_zero]
 obtain ⟨G, l1, l2, h8⟩ := bufAbs (s := a45) (cs := out.flatMap kcells) ((h.mv 8))
 have hkat : KeysAt G a45 (out.map (kmD G)) := by
  refine ⟨out, ⟨by omega, fun j x e => ?_⟩, KRel.of_kmD fun x hx => ?_⟩
  ·obtain ⟨b, hb, _⟩ := l2 (j * 3 + 0) (.int .u64 x.1) (flat_get (f := kcells) (k := 3) out (fun _ => rfl) j 0 x _ e rfl)
   refine ⟨b, hb, fun i v ev => ?_⟩
   obtain ⟨b', hb', hd⟩ := l2 (j * 3 + i) v (flat_get (f := kcells) (k := 3) out (fun _ => rfl) j i x v e ev)
   rw [hb] at hb'
   injection hb' with hb'
   rw [hb', Addr.add_add]; exact hd
  ·obtain ⟨m, _, _, g1, g2⟩ := hrel.mem x (hout'.mem_iff.1 hx)
   exact ⟨_, _, g1.mono l1, g2.mono l1⟩
 have hkperm : (out.map (kmD G)).Perm ((qs.drop r).flatMap (·.keys)) := by
  rw [(hrel.mono l1).kmD]
  exact hout'.map _
 have hmid' := hmid.next (e := q.hi) (rem := rem) (ks := out.map (kmD G)) hqso hq rfl (hin.hi q hqp') (hin.sz q hqp').2 hr1 heq hkperm
 have hsp : SpRel G ⟨(X r).lo, (X r).hi, a45⟩ ⟨t0, q.hi, out.map (kmD G)⟩ := ⟨⟨hXr.1.1.mono l1, hXr.1.2⟩, ⟨hXr.2.1.1.mono l1, hXr.2.1.2⟩, hkat⟩
 have h9 : Sat w (Own G :: E.C G (l ++ fl) :: Rws a 4 n (fun j => spc (X j)) :: Arr f [cmpV, s'.fmt.enc, E.em.enc, .slice s'.pend.a s'.pend.n s'.pend.c, .slice s'.done.a s'.done.n s'.done.c] :: Arr (f.add 5) [s'.sbc.enc, .slice s'.sbuf.a s'.sbuf.n s'.sbuf.c] :: Arr (f.add 7) [.slice fb.a fb.n fb.c] :: Arr (f.add 8) [.slice s'.fk.a s'.fk.n s'.fk.c] :: Arr (f.add 9) [.bool s'.fin] :: Buf 3 fb (out.flatMap kcells) :: R) :=
  ((h8.mv 8).cons fun g hg => E.mono l1 hg).t1
 clear h8
 have hkl : (out.map (kmD G)).length < 2^32 := by rw [List.length_map]; omega
 have hll : (l ++ fl).length < 2^32 := by rw [List.length_append]; have := hmid.n; omega
 refine E.run hsp hkl hll h9 fun w h => ?_
 have h10 : Sat w (Rws a 4 n (fun j => spc (X j)) :: FL f E { s' with fb := fb, fbc := out.flatMap kcells } G (l ++ (fl ++ [⟨t0, q.hi, out.map (kmD G)⟩])) R) := by
  rw [<- List.append_assoc]
  exact ((h.pt 8).pt 8)
 clear h h9
 refine ⟨fun _ w => Sat w (Rws a 4 n (fun j => spc (X j)) :: FL f E { s' with fb := fb, fbc := out.flatMap kcells } G (l ++ (fl ++ [⟨t0, q.hi, out.map (kmD G)⟩])) R), ?_, ifNNone (α := Addr) h10⟩
 clear h10
 intro _ w h
 rw [Int.toNat_natCast]
 refine ⟨⟨by omega, by dsimp only; omega⟩, ?_⟩
 refine ⟨fun m (z : Int) w => ∃ (i : Nat) (X' : Nat -> SpC), z = i /\ i <= n - r - rem /\ m = n - r - rem - i /\ (∀ j, r + rem <= j -> j < r + rem + i -> X' j = ⟨(X r).hi, (X j).hi, (X j).ks⟩) /\ (∀ j, r + rem + i <= j -> X' j = X j) /\ Sat w (Rws a 4 n (fun j => spc (X' j)) :: FL f E { s' with fb := fb, fbc := out.flatMap kcells } G (l ++ (fl ++ [⟨t0, q.hi, out.map (kmD G)⟩])) R),
  ⟨_, 0, X, rfl, Nat.zero_le _, rfl, fun j h1 h2 => by omega, fun _ _ => rfl, h⟩, ?_⟩
 clear h
 rintro m z w ⟨i, X', rfl, hi, hm, hX1, hX2, h⟩
 refine ifd (fun hlt => ?_) (fun hge => ?_)
 ·replace hlt : (i : Int) < ((n - r - rem : Nat) : Int) := hlt
  have hrc : rem ≠ c - r := by omega
  have ew : IntKind.i64.wrap ((i : Int) + 1) = ((i + 1 : Nat) : Int) := w1 om
  refine ⟨⟨by omega, hlt⟩, (a.add (r * 4)).add (rem * 4), by unfold sub; rw [if_neg (fun e => hrc e.symm)]; rfl, ?_⟩
  rw [Int.toNat_natCast, addm, addm, <- Nat.add_assoc, ew]
  refine rowSt (i := 0) (v := .slice (X' (r + rem + i)).lo.a (X' (r + rem + i)).lo.n (X' (r + rem + i)).lo.c) h om rfl rfl fun w h => ?_
  refine ⟨n - r - rem - (i + 1), by omega, i + 1, upd X' (r + rem + i) ⟨(X r).hi, (X (r + rem + i)).hi, (X (r + rem + i)).ks⟩, rfl, by omega, rfl, fun j h1 h2 => ?_, fun j h1 => ?_, ?_⟩
  ·by_cases e : j = r + rem + i
   ·subst e; rw [upd_same]
   ·rw [upd_other e]; exact hX1 j h1 om
  ·rw [upd_other om]; exact hX2 j om
  ·rw [Rws.congr (g := fun j => spc (upd X' (r + rem + i) ⟨(X r).hi, (X (r + rem + i)).hi, (X (r + rem + i)).ks⟩ j))] at h
   ·exact h
   ·intro j _
    by_cases e : j = r + rem + i
    ·subst e; rw [upd_same, upd_same, hX2 _ (Nat.le_refl _)]; rfl
    ·rw [upd_other e, upd_other e]
 ·replace hge : ¬ (i : Int) < ((n - r - rem : Nat) : Int) := hge
  have hie : i = n - r - rem := by omega
  subst hie
  refine ⟨n - (r + rem), by omega, r + rem, X', G, fl ++ [⟨t0, q.hi, out.map (kmD G)⟩], q.hi, { s' with fb := fb, fbc := out.flatMap kcells }, rfl, by omega, by omega, by omega, fun h0 => ?_, hD.trans l1, fun j x hj hx => ?_, hmid', p1, p2, p3, p4, h⟩
  ·have hrc : ¬ c - r = rem := by omega
   show (sub (some (a.add (r * 4))) 4 rem (n - r) (c - r)).a = _
   unfold sub
   rw [if_neg hrc]
   exact congrArg some (addm a r rem)
  ·have hjn : j < n := by have := (List.getElem?_eq_some_iff.1 hx).1; omega
   have h1 := (hX j x om hx).mono l1
   rw [hX1 j hj om]
   exact ⟨⟨hXr.2.1.1.mono l1, hXr.2.1.2⟩, h1.2.1, h1.2.2⟩
def FX (f : Addr) (E : EmitI) (s : FrS) (fkb : ByteArray) (D : Hp) (l : List SpanM) (xs : List SpC) (R : List Chunk) : List Chunk :=
 FL f E s D l (Buf 4 s.pend (xs.flatMap spc) :: Buf 4 s.done [] :: Buf 1 s.fk (bytesOf fkb) :: R)
def cutP (kb : ByteArray) (p : SpanM) : Option SpanM := if bcmp kb p.hi < 0 then some ⟨kb, p.hi, p.keys⟩ else none
def cutD (kb : ByteArray) (p : SpanM) : SpanM := if bcmp kb p.hi < 0 then ⟨p.lo, kb, p.keys⟩ else p
theorem getD_app {α : Type} {l : List α} {x d : α} : (l ++ [x]).getD l.length d = x := by simp
theorem getD_app_lt {α : Type} {l : List α} {x d : α} {j : Nat} (h : j < l.length) : (l ++ [x]).getD j d = l.getD j d := by
 rw [List.getD_eq_getElem?_getD, List.getD_eq_getElem?_getD, List.getElem?_append_left h]
theorem flat_congr {f g : Nat -> List Value} : ∀ {n : Nat}, (∀ j, j < n -> f j = g j) -> flat f n = flat g n
 | 0, _ => rfl
 | n + 1, h => by rw [flat, flat, flat_congr fun j hj => h j om, h n om]
theorem cutD_keys {kb : ByteArray} (p : SpanM) : (cutD kb p).keys = p.keys := by unfold cutD; split <;> rfl
theorem cutD_lo {kb : ByteArray} (p : SpanM) : (cutD kb p).lo = p.lo := by unfold cutD; split <;> rfl
theorem cutD_flat {kb : ByteArray} (ps : List SpanM) : ((ps.map (cutD kb)).flatMap (·.keys)) = ps.flatMap (·.keys) := by
 rw [List.flatMap_map]
 congr 1
 funext p
 exact cutD_keys p
theorem cutD_in {ps : List SpanM} {kb x0 : ByteArray} (hlo : ∀ p ∈ ps, p.lo = x0 /\ bcmp x0 p.hi < 0) (hsz : ∀ p ∈ ps, p.lo.size < 2^40 /\ p.hi.size < 2^40) (hkz : kb.size < 2^40) (hxk : bcmp x0 kb < 0)
  (hnd : ((ps.flatMap (·.keys)).map (·.tr)).Nodup) (hkn : (ps.flatMap (·.keys)).length < 2^30) (hn30 : ps.length < 2^30) : FlIn x0 kb (ps.map (cutD kb)) := by
 refine ⟨fun p hp => ?_, fun p hp => ?_, fun p hp => ?_, by rw [cutD_flat]; exact hnd, by rw [cutD_flat]; exact hkn, by rw [List.length_map]; exact hn30⟩ <;> obtain ⟨q, hq, rfl⟩ := List.mem_map.1 hp
 ·rw [cutD_lo]
  refine ⟨(hlo q hq).1, ?_⟩
  unfold cutD; split
  ·exact hxk
  ·exact (hlo q hq).2
 ·unfold cutD; split
  ·exact le_refl_b _
  ·rename_i hc; exact not_lt_b.1 hc
 ·rw [cutD_lo]
  refine ⟨(hsz q hq).1, ?_⟩
  unfold cutD; split
  ·exact hkz
  ·exact (hsz q hq).2
set_option maxHeartbeats 2000000 in
theorem spec110 {E : EmitI} {f : Addr} {s : FrS} {fkb kb : ByteArray} {D : Hp} {l : List SpanM} {xs : List SpC} {ps : List SpanM} {x0 : ByteArray} {key : Sl} {R w} {K : Unit -> WP} (hps : SpsRel D xs ps) (hpn : s.pend.n = ps.length)
  (hlo : ∀ p ∈ ps, p.lo = x0 /\ bcmp x0 p.hi < 0) (hsz : ∀ p ∈ ps, p.lo.size < 2^40 /\ p.hi.size < 2^40) (hx0 : x0.size < 2^40) (hnd : ((ps.flatMap (·.keys)).map (·.tr)).Nodup) (hkn : (ps.flatMap (·.keys)).length < 2^30) (hn30 : ps.length < 2^30)
  (hkey : BytesAt D key kb) (hkey2 : key.a.isSome = true) (hkz : kb.size < 2^40) (hxk : bcmp x0 kb < 0) (hl : l.length + ps.length < 2^32) (hd0 : s.done.n = 0) (h : Sat w (FX f E s fkb D l xs R))
  (k : ∀ D' fl ys s' w', D.le D' -> Flushed x0 (ps.map (cutD kb)) fl kb -> fl.length <= ps.length -> SpsRel D' ys (ps.filterMap (cutP kb)) -> s'.pend.n = (ps.filterMap (cutP kb)).length -> s'.done.n = 0 -> s'.fin = s.fin -> Sat w' (FX f E s' kb D' (l ++ fl) ys R) -> K () w') : F110 (some f) key K w := by
 have hxl := hps.len
 unfold F110
 unfold FX FL at h
 have hrd := (h.near (w' := w.drew)).rdB .k6 hkey
 have hkn' : kb.size = key.n := by
  obtain ⟨a, n, c⟩ := key
  cases a with
  | none => cases hkey2
  | some a => exact hrd.1
 refine ⟨_, rfl, Ld1 h ⟨⟨by omega, by dsimp only; omega⟩, ?_⟩⟩
 have h1 := bufTrunc (h.mv 10)
 refine AppP_run (s := si87) (old := []) (d := ⟨s.fk.a, 0, s.fk.c⟩) (x := key) (new := bytesOf kb) h1 ((h.near).rdB .k6 hkey).rdS (by rw [bytesOf_length, hkn']; exact (Nat.mul_one _).symm) (bytes_one kb) (by show (2 * (0 + key.n) + 1024) * 1 <= _; omega) (by dsimp only; omega) fun fk' w er ea h => ?_
 refine ⟨_, rfl, St1 h rfl fun w h => ⟨_, rfl, Ld1 h ⟨⟨by omega, by dsimp only; omega⟩, _, rfl, Ld1 h ⟨_, rfl, Ld1 h ⟨⟨by omega, by dsimp only; omega⟩, _, rfl, St1 h rfl fun w h => ?_⟩⟩⟩⟩⟩
 have h2 := h.mv 9
 rw [<- flat_all spc xpd xs, show xs.length = s.pend.n by omega] at h2
 have hnone : s.pend.a = none -> s.pend.n = 0 /\ s.pend.c = 0 := fun hh => by
  obtain ⟨g, hg, _⟩ := h2
  unfold Buf at hg
  rw [hh] at hg
  exact ⟨hg.1, hg.2.1⟩
 obtain ⟨hnc, hka, h3⟩ := bufOpen (k := 4) (p := f) (f := fun j => spc (xs.getD j xpd)) (fun j _ => rfl) (Nat.succ_pos _) h2
 have hdone : s.done = ⟨s.done.a, 0, s.done.c⟩ := by
  generalize s.done = d at hd0
  obtain ⟨a, n, c⟩ := d
  dsimp only at hd0 |-
  rw [hd0]
 have hfk : fk' = ⟨fk'.a, fk'.n, fk'.c⟩ := rfl
 refine ⟨fun m (z : Sl × Int) w => ∃ (i : Nat) (ys zs : List SpC) (dn : Sl) (g : Nat -> List Value), z = (dn, (i : Int)) /\ i <= ps.length /\ m = ps.length - i /\ SpsRel D ys ((ps.take i).filterMap (cutP kb)) /\ SpsRel D zs ((ps.take i).map (cutD kb)) /\ dn.n = zs.length /\
   (∀ j, j < ys.length -> g j = spc (ys.getD j xpd)) /\ (∀ j, i <= j -> g j = spc (xs.getD j xpd)) /\ (∀ j, (g j).length = 4) /\ Sat w (Rws (s.pend.a.getD f) 4 s.pend.n g :: spareO 4 s.pend :: Buf 1 fk' (bytesOf kb) :: Arr f [cmpV, s.fmt.enc, E.em.enc, .slice s.pend.a ys.length s.pend.c, .slice s.done.a s.done.n s.done.c] :: Arr (f.add 5) [s.sbc.enc, .slice s.sbuf.a s.sbuf.n s.sbuf.c] :: Arr (f.add 7) [.slice s.fb.a s.fb.n s.fb.c] :: Arr (f.add 8) [.slice fk'.a fk'.n fk'.c] :: Arr (f.add 9) [.bool s.fin] :: Buf 3 s.fb s.fbc :: Own D :: E.C D l :: Buf 4 dn (zs.flatMap spc) :: R), ⟨_, 0, [], [], ⟨s.done.a, 0, s.done.c⟩, fun j => spc (xs.getD j xpd), rfl, Nat.zero_le _, rfl, trivial, trivial, rfl, fun j hj => by simp at hj, fun _ _ => rfl, fun _ => rfl, by rw [<- hdone]; exact h3⟩, ?_⟩
 clear h h1 h2 h3
 rintro m z w ⟨i, ys, zs, dn, g, rfl, hi, hm, hys, hzs, hdn, hg1, hg2, hg4, h⟩
 have hyl := hys.len
 have hyi : ys.length <= i := by
  have h1 := List.length_filterMap_le (cutP kb) (ps.take i)
  rw [List.length_take] at h1; omega
 have hzl := hzs.len
 rw [List.length_map, List.length_take] at hzl
 have hzl' : zs.length = i := by omega
 dsimp only
 refine ifd (fun hlt => ?_) (fun hge => ?_)
 ·replace hlt : (i : Int) < s.pend.n := hlt
  have hil : i < ps.length := by omega
  have hka' := hka om
  have hp : ps[i]? = some ps[i] := List.getElem?_eq_getElem hil
  have hx : xs[i]? = some (xs.getD i xpd) := by rw [List.getD_eq_getElem?_getD, List.getElem?_eq_getElem om]; rfl
  have hxp := hps.get i _ _ hx hp
  have hpm := List.getElem_mem hil
  have hr : RdL w ((s.pend.a.getD f).add (i * 4)) (spc (xs.getD i xpd)) := by
   have := rowRd h (j := i) om
   rwa [hg2 i (Nat.le_refl _)] at this
  generalize xs.getD i xpd = x at hx hxp hr
  have htake : ps.take (i + 1) = ps.take i ++ [ps[i]] := by rw [List.take_add_one, hp]; rfl
  generalize ps[i] = p at hp hxp hpm htake
  obtain ⟨hpl, hph⟩ := hlo p hpm
  have ew : IntKind.i64.wrap ((i : Int) + 1) = ((i + 1 : Nat) : Int) := w1 om
  rw [ew, Int.toNat_natCast]
  unfold spc at hr
  refine ⟨⟨by omega, hlt⟩, _, hka', LdR hr ?_⟩
  refine NewP_run h fun n18 w h => StL_of (St1 h rfl fun w h => St1 h rfl fun w h => St1 h rfl fun w h => St1 h rfl fun w h => ?_)
  refine ⟨_, rfl, Ld1 h (Ld1 h ?_)⟩
  refine callCmp (a := key) (b := x.hi) (h.near.rdB .k10 hkey) (h.near.rdB .k10 hxp.2.1.1) ?_
  refine ifd (fun hc => ?_) (fun hc => ?_)
  ·
   have eP : cutP kb p = some ⟨kb, p.hi, p.keys⟩ := if_pos hc
   have eD : cutD kb p = ⟨p.lo, kb, p.keys⟩ := if_pos hc
   refine ⟨fun (dn' : Sl) w => ∃ zs', SpsRel D zs' ((ps.take i).map (cutD kb) ++ [⟨p.lo, kb, p.keys⟩]) /\ dn'.n = zs'.length /\ Sat w (Arr n18 [.slice x.lo.a x.lo.n x.lo.c, .slice x.hi.a x.hi.n x.hi.c, .slice x.ks.a x.ks.n x.ks.c, .int .i8 (0 : Int)] :: Rws (s.pend.a.getD f) 4 s.pend.n g :: spareO 4 s.pend :: Buf 1 fk' (bytesOf kb) :: Arr f [cmpV, s.fmt.enc, E.em.enc, .slice s.pend.a ys.length s.pend.c, .slice s.done.a s.done.n s.done.c] :: Arr (f.add 5) [s.sbc.enc, .slice s.sbuf.a s.sbuf.n s.sbuf.c] :: Arr (f.add 7) [.slice s.fb.a s.fb.n s.fb.c] :: Arr (f.add 8) [.slice fk'.a fk'.n fk'.c] :: Arr (f.add 9) [.bool s.fin] :: Buf 3 s.fb s.fbc :: Own D :: E.C D l :: Buf 4 dn' (zs'.flatMap spc) :: R), ?_, ?_⟩
   ·clear h
    rintro dn' w ⟨zs', hzs', hdn', h⟩
    refine ⟨_, rfl, Ld1 h (Ld1 h (Ld1 h (NewS_run h fun pn w h => ⟨LdAt1 h, ?_⟩)))⟩
    refine AppP_inD (a := s.pend.a.getD f) (new := [.slice key.a key.n key.c, .slice x.hi.a x.hi.n x.hi.c, .slice x.ks.a x.ks.n x.ks.c, .int .i8 (0 : Int)]) hka' (by dsimp only; omega) ⟨rfl, h.rdL .here⟩ ?_
    have h1 := h.mv 2
    simp only [mv] at h1
    refine rowSet (k := 4) (j := ys.length) h1 om (hg4 _) rfl (spc_one ⟨key, x.hi, x.ks⟩) fun w h => ?_
    refine ⟨_, rfl, St1 h rfl fun w h => ?_⟩
    have h2 := (h.t1.tail).t1.tail
    refine ⟨_, ?_, i + 1, ys ++ [⟨key, x.hi, x.ks⟩], zs', dn', upd g ys.length (spc ⟨key, x.hi, x.ks⟩), rfl, by omega, rfl, ?_, ?_, hdn', fun j hj => ?_, fun j hj => ?_, fun j => ?_, ?_⟩
    ·omega
    ·rw [htake, List.filterMap_append]
     refine hys.app ?_
     have e5 : ([p] : List SpanM).filterMap (cutP kb) = [⟨kb, p.hi, p.keys⟩] := by rw [List.filterMap_cons, eP]; rfl
     rw [e5]
     exact ⟨⟨⟨hkey, hkey2⟩, hxp.2.1, hxp.2.2⟩, trivial⟩
    ·rw [htake, List.map_append, List.map_singleton, eD]; exact hzs'
    ·rw [List.length_append, List.length_singleton] at hj
     by_cases e : j = ys.length
     ·subst e; rw [upd_same, getD_app]
     ·rw [upd_other e, getD_app_lt om]; exact hg1 j om
    ·rw [upd_other om]; exact hg2 j om
    ·unfold upd; split
     ·rfl
     ·exact hg4 j
    ·rw [List.length_append, List.length_singleton]; exact h2
   ·refine ⟨_, rfl, Ld1 h (Ld1 h ?_)⟩
    refine callCmp (a := x.lo) (b := key) (h.near.rdB .k10 hxp.1.1) (h.near.rdB .k10 hkey) ?_
    refine ifd (fun _ => ?_) (fun hh => absurd (by rw [hpl]; exact hxk) hh)
    refine Ld1 h (Ld1 h (NewS_run h fun pn w h => ?_))
    refine App1 (k := 4) rfl h .k13 .here rfl (spc_one ⟨x.lo, key, x.ks⟩) ?_ om fun r w er ea h => ?_
    ·show (2 * (dn.n + 1) + 1024) * 80 <= _
     omega
    have hone : SpsRel D [⟨x.lo, key, x.ks⟩] [⟨p.lo, kb, p.keys⟩] := ⟨⟨hxp.1, ⟨hkey, hkey2⟩, hxp.2.2⟩, trivial⟩
    refine ⟨zs ++ [⟨x.lo, key, x.ks⟩], hzs.app hone, by rw [List.length_append, List.length_singleton]; omega, ?_⟩
    have e1 : (zs ++ ([⟨x.lo, key, x.ks⟩] : List SpC)).flatMap spc = zs.flatMap spc ++ spc ⟨x.lo, key, x.ks⟩ := by simp [List.flatMap_append]
    rw [e1]
    exact (h.t1.tail).pt 12
  ·
   have eP : cutP kb p = none := if_neg hc
   have eD : cutD kb p = p := if_neg hc
   refine LdN h (NewS_run h fun pn w h => ?_)
   refine App1 (k := 4) rfl h .k13 .here rfl (spc_one x) ?_ om fun r w er ea h => ?_
   ·show (2 * (dn.n + 1) + 1024) * 80 <= _
    omega
   refine ⟨_, ?_, i + 1, ys, zs ++ [x], r, g, rfl, by omega, rfl, ?_, ?_, by rw [List.length_append, List.length_singleton]; omega, hg1, fun j hj => hg2 j om, hg4, ?_⟩
   ·omega
   ·rw [htake, List.filterMap_append, List.filterMap_cons, eP, List.filterMap_nil, List.append_nil]; exact hys
   ·rw [htake, List.map_append, List.map_singleton, eD]; exact hzs.app ⟨hxp, trivial⟩
   ·have e1 : (zs ++ [x]).flatMap spc = zs.flatMap spc ++ spc x := by simp [List.flatMap_append]
    rw [e1]
    exact ((h.t1.tail).t1.tail).pt 11
 ·replace hge : ¬ (i : Int) < s.pend.n := hge
  have : i = ps.length := by omega
  subst this
  rw [List.take_length] at hys hzs
  refine ⟨⟨by omega, by omega⟩, _, rfl, St1 h rfl fun w h => ?_⟩
  have h1 := bufShut (k := 4) (m := ys.length) (fun j _ => hg4 j) om hnone h
  have e1 : flat g ys.length = ys.flatMap spc := by
   rw [<- flat_all spc xpd ys]
   exact flat_congr fun j hj => hg1 j hj
  rw [e1] at h1
  have h2 := h1.mv 10
  rw [<- flat_all spc xpd zs, <- hdn] at h2
  have hnd' : dn.a = none -> dn.n = 0 /\ dn.c = 0 := fun hh => by
   obtain ⟨g, hg, _⟩ := h2
   unfold Buf at hg
   rw [hh] at hg
   exact ⟨hg.1, hg.2.1⟩
  obtain ⟨hdnc, hda, h3⟩ := bufOpen (k := 4) (p := f) (f := fun j => spc (zs.getD j xpd)) (fun j _ => rfl) (Nat.succ_pos _) h2
  have h4 : Sat w (Rws (dn.a.getD f) 4 (ps.map (cutD kb)).length (fun j => spc (zs.getD j xpd)) :: FL f E { s with pend := ⟨s.pend.a, ys.length, s.pend.c⟩, done := ⟨dn.a, 0, dn.c⟩, fk := fk' } D l (spareO 4 dn :: Buf 4 ⟨s.pend.a, ys.length, s.pend.c⟩ (ys.flatMap spc) :: Buf 1 fk' (bytesOf kb) :: R)) := by
   rw [List.length_map, <- hzl', <- hdn]
   exact ((((((((((((h3.mv 3).mv 3).mv 3).mv 11).mv 11).mv 11).mv 11).mv 11).mv 11).mv 11).mv 11).mv 11)
  have hinD : FlIn x0 kb (ps.map (cutD kb)) := cutD_in hlo hsz hkz hxk hnd hkn hn30
  have el : (ps.map (cutD kb)).length = dn.n := by rw [List.length_map]; omega
  rw [el] at h4
  refine call111 (buf2 := dn) (lastKey3 := nl) ?_
  refine spec111 (t := kb) (x0 := x0) (n := dn.n) hzs el hinD hx0 hda hdnc om h4 ?_
  intro D' fl g' s' w hD hfl hfn hg' p1 p2 p3 p4 h
  have h5 : Sat w (Rws (dn.a.getD f) 4 dn.n g' :: spareO 4 dn :: FL f E s' D' (l ++ fl) (Buf 4 ⟨s.pend.a, ys.length, s.pend.c⟩ (ys.flatMap spc) :: Buf 1 fk' (bytesOf kb) :: R)) :=
   ((((((((((((h.mv 11).mv 11).mv 10).mv 10).mv 10).mv 10).mv 10).mv 10).mv 10).mv 10).mv 11).mv 11)
  have h6 := bufShut (k := 4) (m := 0) hg' (Nat.zero_le _) hnd' h5
  have e6 : FX f E s' kb D' (l ++ fl) ys R = FL f E s' D' (l ++ fl) (Buf 4 ⟨s.pend.a, ys.length, s.pend.c⟩ (ys.flatMap spc) :: Buf 4 ⟨dn.a, 0, dn.c⟩ [] :: Buf 1 fk' (bytesOf kb) :: R) := by
   unfold FX
   rw [p1, p2, p3]
  refine k D' fl ys s' w hD hfl om (hys.mono hD) (by rw [p1]; exact hys.len) (by rw [p2]) p4 ?_
  rw [e6]
  exact (((((((((((h6.mv 10).mv 1).mv 10).mv 10).mv 10).mv 10).mv 10).mv 10).mv 10).mv 10).mv 10)
structure FrInv (ss out ps : List SpanM) (x0 : ByteArray) : Prop where
 ok : SpansOK out
 below : ∀ f ∈ out, bcmp f.hi x0 <= 0
 lo : ∀ p ∈ ps, p.lo = x0 /\ bcmp x0 p.hi < 0
 sz : ∀ p ∈ ps, p.lo.size < 2^40 /\ p.hi.size < 2^40
 xz : x0.size < 2^40
 past : ∀ y, bcmp y x0 < 0 -> (keysOf out y).Perm (covK ss y)
 cur : ∀ y, bcmp x0 y <= 0 -> ((ps.filter fun p => decide (bcmp y p.hi < 0)).flatMap (·.keys)).Perm (covK ss y)
 sub : (ps.flatMap (·.keys)).Sublist (ss.flatMap (·.keys))
 n : ps.length <= ss.length
 on : out.length <= ss.length * ss.length
theorem FrInv.init : FrInv [] [] [] .empty :=
 ⟨SpansOK.nil, fun f hf => by simp at hf, fun f hf => by simp at hf, fun f hf => by simp at hf, by show 0 < _; omega, fun y hy => absurd hy (not_lt_b.2 (empty_le y)), fun y _ => .refl _, .refl _, Nat.le_refl _, Nat.le_refl _⟩
theorem covK_one {s : SpanM} {y : ByteArray} : covK [s] y = if bcmp s.lo y <= 0 /\ bcmp y s.hi < 0 then s.keys else [] := by
 unfold covK
 by_cases h : bcmp s.lo y <= 0 /\ bcmp y s.hi < 0
 ·rw [if_pos h]; simp [h.1, h.2]
 ·rw [if_neg h]
  have : (decide (bcmp s.lo y <= 0) && decide (bcmp y s.hi < 0)) = false := by
   rw [<- Bool.not_eq_true]; simpa using h
  simp [List.filter_cons, this]
theorem covK_snoc_out {ss : List SpanM} {s : SpanM} {y : ByteArray} (h : ¬ (bcmp s.lo y <= 0 /\ bcmp y s.hi < 0)) : covK (ss ++ [s]) y = covK ss y := by
 rw [covK_app, covK_one, if_neg h, List.append_nil]
theorem sq_le (n : Nat) : n * n + n <= (n + 1) * (n + 1) := by rw [Nat.succ_mul, Nat.mul_succ]; omega
theorem sub_snoc {a b : List SpanM} {s : SpanM} (h : (a.flatMap (·.keys)).Sublist (b.flatMap (·.keys))) : (a.flatMap (·.keys)).Sublist ((b ++ [s]).flatMap (·.keys)) := by
 rw [List.flatMap_append]
 exact h.trans (List.sublist_append_left _ _)
theorem FrInv.skip {ss out ps : List SpanM} {x0 : ByteArray} {s : SpanM} (h : FrInv ss out ps x0) (hs : ¬ bcmp s.lo s.hi < 0) : FrInv (ss ++ [s]) out ps x0 := by
 have hn : ∀ y, ¬ (bcmp s.lo y <= 0 /\ bcmp y s.hi < 0) := fun y hy => hs (bcmp_le_lt hy.1 hy.2)
 refine ⟨h.ok, h.below, h.lo, h.sz, h.xz, fun y hy => by rw [covK_snoc_out (hn y)]; exact h.past y hy, fun y hy => by rw [covK_snoc_out (hn y)]; exact h.cur y hy, sub_snoc h.sub, ?_, ?_⟩
 ·rw [List.length_append]; have := h.n; omega
 ·rw [List.length_append, List.length_singleton]; have := h.on; have := sq_le ss.length; omega
theorem FrInv.same {ss out ps : List SpanM} {x0 : ByteArray} {s : SpanM} (h : FrInv ss out ps x0) (hx : s.lo = x0) (hs : bcmp s.lo s.hi < 0) (hz : s.lo.size < 2^40 /\ s.hi.size < 2^40) : FrInv (ss ++ [s]) out (ps ++ [s]) x0 := by
 subst hx
 refine ⟨h.ok, h.below, fun p hp => ?_, fun p hp => ?_, h.xz, fun y hy => ?_, fun y hy => ?_, ?_, ?_, ?_⟩
 ·rcases List.mem_append.1 hp with hp | hp
  ·exact h.lo p hp
  ·simp only [List.mem_singleton] at hp; rw [hp]; exact ⟨rfl, hs⟩
 ·rcases List.mem_append.1 hp with hp | hp
  ·exact h.sz p hp
  ·simp only [List.mem_singleton] at hp; rw [hp]; exact hz
 ·rw [covK_snoc_out fun g => absurd hy (not_lt_b.2 g.1)]; exact h.past y hy
 ·rw [List.filter_append, List.flatMap_append, covK_app, covK_one]
  refine (h.cur y hy).append ?_
  by_cases hc : bcmp y s.hi < 0
  ·rw [if_pos ⟨hy, hc⟩]; simp [hc]
  ·rw [if_neg fun g => hc g.2]; simp [hc]
 ·rw [List.flatMap_append, List.flatMap_append]; exact h.sub.append (.refl _)
 ·rw [List.length_append, List.length_append]; have := h.n; simp only [List.length_singleton]; omega
 ·rw [List.length_append, List.length_singleton]; have := h.on; have := sq_le ss.length; omega
theorem keysOf_above {l : List SpanM} {y : ByteArray} (h : ∀ f ∈ l, bcmp f.hi y <= 0) : keysOf l y = [] := by
 unfold keysOf; rw [covs_above h]
theorem FrInv.move {ss out : List SpanM} {x0 x1 : ByteArray} (h : FrInv ss out [] x0) (hx : bcmp x0 x1 <= 0) (hz : x1.size < 2^40) : FrInv ss out [] x1 := by
 refine ⟨h.ok, fun f hf => bcmp_trans (h.below f hf) hx, fun f hf => by simp at hf, fun f hf => by simp at hf, hz, fun y hy => ?_, fun y hy => h.cur y (bcmp_trans hx hy), h.sub, h.n, h.on⟩
 by_cases hy0 : bcmp y x0 < 0
 ·exact h.past y hy0
 ·rw [keysOf_above fun f hf => bcmp_trans (h.below f hf) (not_lt_b.1 hy0)]
  exact h.cur y (not_lt_b.1 hy0)
theorem filter_cutD {kb y : ByteArray} (hy : bcmp y kb < 0) : ∀ (ps : List SpanM), ((ps.map (cutD kb)).filter fun p => decide (bcmp y p.hi < 0)).flatMap (·.keys) = (ps.filter fun p => decide (bcmp y p.hi < 0)).flatMap (·.keys)
 | [] => rfl
 | p :: ps => by
  have ih := filter_cutD hy ps
  have e : decide (bcmp y (cutD kb p).hi < 0) = decide (bcmp y p.hi < 0) := by
   unfold cutD
   split
   ·rename_i hc
    rw [decide_eq_true hy, decide_eq_true (bcmp_lt_le hy (lt_le_b hc))]
   ·rfl
  rw [List.map_cons, List.filter_cons, List.filter_cons, e]
  split
  ·rw [List.flatMap_cons, List.flatMap_cons, ih, cutD_keys]
  ·exact ih
theorem filter_cutP {kb y : ByteArray} (hy : bcmp kb y <= 0) : ∀ (ps : List SpanM), ((ps.filterMap (cutP kb)).filter fun p => decide (bcmp y p.hi < 0)).flatMap (·.keys) = (ps.filter fun p => decide (bcmp y p.hi < 0)).flatMap (·.keys)
 | [] => rfl
 | p :: ps => by
  have ih := filter_cutP hy ps
  rw [List.filterMap_cons, List.filter_cons]
  by_cases hc : bcmp kb p.hi < 0
  ·have eP : cutP kb p = some ⟨kb, p.hi, p.keys⟩ := if_pos hc
   rw [eP]
   dsimp only
   rw [List.filter_cons]
   dsimp only
   by_cases h2 : bcmp y p.hi < 0
   ·simp [h2]; exact ih
   ·simp [h2]; exact ih
  ·have eP : cutP kb p = none := if_neg hc
   rw [eP]
   dsimp only
   have h2 : ¬ bcmp y p.hi < 0 := fun g => hc (bcmp_le_lt hy g)
   simp [h2]; exact ih
theorem cutP_sub {kb : ByteArray} : ∀ (ps : List SpanM), ((ps.filterMap (cutP kb)).flatMap (·.keys)).Sublist (ps.flatMap (·.keys))
 | [] => .refl _
 | p :: ps => by
  have ih := cutP_sub (kb := kb) ps
  rw [List.filterMap_cons]
  by_cases hc : bcmp kb p.hi < 0
  ·have eP : cutP kb p = some ⟨kb, p.hi, p.keys⟩ := if_pos hc
   rw [eP]
   dsimp only
   rw [List.flatMap_cons, List.flatMap_cons]
   exact (List.Sublist.refl _).append ih
  ·have eP : cutP kb p = none := if_neg hc
   rw [eP]
   dsimp only
   rw [List.flatMap_cons]
   exact ih.trans (List.sublist_append_right _ _)
theorem FrInv.cut {ss out ps fl : List SpanM} {x0 kb : ByteArray} (h : FrInv ss out ps x0) (hx : bcmp x0 kb < 0) (hz : kb.size < 2^40) (hf : Flushed x0 (ps.map (cutD kb)) fl kb) :
  SpansOK (out ++ fl) /\ (∀ f ∈ out ++ fl, bcmp f.hi kb <= 0) /\ (∀ y, bcmp y kb < 0 -> (keysOf (out ++ fl) y).Perm (covK ss y)) /\ (∀ p ∈ ps.filterMap (cutP kb), p.lo = kb /\ bcmp kb p.hi < 0) /\ (∀ p ∈ ps.filterMap (cutP kb), p.lo.size < 2^40 /\ p.hi.size < 2^40) /\
   (∀ y, bcmp kb y <= 0 -> (((ps.filterMap (cutP kb)).filter fun p => decide (bcmp y p.hi < 0)).flatMap (·.keys)).Perm (covK ss y)) := by
 refine ⟨h.ok.app hf.ok h.below hf.lo, fun f hf' => ?_, fun y hy => ?_, fun p hp => ?_, fun p hp => ?_, fun y hy => ?_⟩
 ·rcases List.mem_append.1 hf' with g | g
  ·exact bcmp_trans (h.below f g) (lt_le_b hx)
  ·exact hf.hi f g
 ·by_cases hy0 : bcmp y x0 < 0
  ·rw [keysOf_lt hf.lo hy0]; exact h.past y hy0
  ·have hy0 := not_lt_b.1 hy0
   rw [keysOf_ge h.below hy0]
   refine (hf.ks y hy0).trans ?_
   rw [filter_cutD hy]
   exact h.cur y hy0
 ·obtain ⟨q, hq, e⟩ := List.mem_filterMap.1 hp
  unfold cutP at e
  split at e
  ·rename_i hc
   injection e with e
   rw [<- e]; exact ⟨rfl, hc⟩
  ·cases e
 ·obtain ⟨q, hq, e⟩ := List.mem_filterMap.1 hp
  unfold cutP at e
  split at e
  ·injection e with e
   rw [<- e]; exact ⟨hz, (h.sz q hq).2⟩
  ·cases e
 ·rw [filter_cutP hy]
  exact h.cur y (bcmp_trans (lt_le_b hx) hy)
theorem FrInv.step {ss out ps fl : List SpanM} {x0 : ByteArray} {s : SpanM} (h : FrInv ss out ps x0) (hx : bcmp x0 s.lo < 0) (hs : bcmp s.lo s.hi < 0) (hz : s.lo.size < 2^40 /\ s.hi.size < 2^40) (hf : Flushed x0 (ps.map (cutD s.lo)) fl s.lo) (hn : fl.length <= ps.length) :
  FrInv (ss ++ [s]) (out ++ fl) (ps.filterMap (cutP s.lo) ++ [s]) s.lo := by
 obtain ⟨h1, h2, h3, h4, h5, h6⟩ := h.cut hx hz.1 hf
 refine ⟨h1, h2, fun p hp => ?_, fun p hp => ?_, hz.1, fun y hy => ?_, fun y hy => ?_, ?_, ?_, ?_⟩
 ·rcases List.mem_append.1 hp with hp | hp
  ·exact h4 p hp
  ·simp only [List.mem_singleton] at hp; rw [hp]; exact ⟨rfl, hs⟩
 ·rcases List.mem_append.1 hp with hp | hp
  ·exact h5 p hp
  ·simp only [List.mem_singleton] at hp; rw [hp]; exact hz
 ·rw [covK_snoc_out fun g => absurd hy (not_lt_b.2 g.1)]; exact h3 y hy
 ·rw [List.filter_append, List.flatMap_append, covK_app, covK_one]
  refine (h6 y hy).append ?_
  by_cases hc : bcmp y s.hi < 0
  ·rw [if_pos ⟨hy, hc⟩]; simp [hc]
  ·rw [if_neg fun g => hc g.2]; simp [hc]
 ·rw [List.flatMap_append, List.flatMap_append]; exact ((cutP_sub ps).trans h.sub).append (.refl _)
 ·rw [List.length_append, List.length_append]; have := h.n; have := List.length_filterMap_le (cutP s.lo) ps; simp only [List.length_singleton]; omega
 ·rw [List.length_append, List.length_append, List.length_singleton]; have := h.on; have := h.n; have := sq_le ss.length; omega
theorem map_id {α : Type} {f : α -> α} : ∀ {l : List α}, (∀ x ∈ l, f x = x) -> l.map f = l
 | [], _ => rfl
 | x :: l, h => by rw [List.map_cons, h x (by simp), map_id fun y hy => h y (by simp [hy])]
theorem FrInv.fin {ss out ps fl : List SpanM} {x0 t : ByteArray} (h : FrInv ss out ps x0) (hf : Flushed x0 ps fl t) : SpansOK (out ++ fl) /\ ∀ y, (keysOf (out ++ fl) y).Perm (covK ss y) := by
 refine ⟨h.ok.app hf.ok h.below hf.lo, fun y => ?_⟩
 by_cases hy0 : bcmp y x0 < 0
 ·rw [keysOf_lt hf.lo hy0]; exact h.past y hy0
 ·have hy0 := not_lt_b.1 hy0
  rw [keysOf_ge h.below hy0]
  exact (hf.ks y hy0).trans (h.cur y hy0)
theorem max_hi : ∀ (ps : List SpanM) (x : ByteArray), ∃ t, bcmp x t <= 0 /\ ∀ p ∈ ps, bcmp p.hi t <= 0
 | [], x => ⟨x, le_refl_b x, fun p hp => by simp at hp⟩
 | p :: ps, x => by
  obtain ⟨t, h1, h2⟩ := max_hi ps x
  by_cases hc : bcmp p.hi t <= 0
  ·refine ⟨t, h1, fun q hq => ?_⟩
   rcases List.mem_cons.1 hq with rfl | hq
   ·exact hc
   ·exact h2 q hq
  ·have hc := lt_le_b (not_le_b.1 hc)
   refine ⟨p.hi, bcmp_trans h1 hc, fun q hq => ?_⟩
   rcases List.mem_cons.1 hq with rfl | hq
   ·exact le_refl_b _
   ·exact bcmp_trans (h2 q hq) hc
end Go.Proofs.YtpkoddfamelnhaaGreatDoor
namespace Go.Tr
theorem ones_of {vs : List Value} (h : vs.all Value.oneCell' = true) : ∀ v ∈ vs, v.oneCell' = true := List.all_eq_true.1 h
theorem rdBuf {w : World} {L R} {k : Nat} {d : Sl} {cs : List Value} (h : Sat w L) (t : Take L (Buf k d cs) R) {j : Nat} {v : Value} (e : cs[j]? = some v) : ∃ a, d.a = some a /\ w.cell? (a.add j) = some v := by
 obtain ⟨g, hg, hh, _⟩ := h.take t
 unfold Buf at hg
 cases ha : d.a with
 | none => rw [ha] at hg; rw [hg.2.2.1] at e; simp at e
 | some a =>
  rw [ha] at hg
  obtain ⟨_, sp, _, hc⟩ := hg
  have hj : j < cs.length := (List.getElem?_eq_some_iff.1 e).1
  exact ⟨a, rfl, (hh _ _ (hc.1 j v (by rw [List.getElem?_append_left hj]; exact e))).1⟩
end Go.Tr
namespace Go.Proofs.YtpkoddfamelnhaaGreatDoor
open Go Go.Tr
set_option maxRecDepth 100000
def zrow (_ : Nat) : List Value := [.nilIface, .int .i8 (0 : Int), .slice none 0 0, .pointer none]
def lrow (S : Nat -> LevS) (j : Nat) (i : Nat) : List Value := if i < j then [.iface 223 (.pointer (some (S i).it)), .int .i8 (0 : Int), .slice none 0 0, .pointer none] else zrow i
def mhd (b ui : Addr) : List Value := [.pointer (some b), .slice none 0 0, .slice none 0 0, .iface 214 (.pointer (some ui)), .slice none 0 0, .slice none 0 0, .slice none 0 0, .int .i8 (0 : Int), .nilIface, .int .i8 (0 : Int)]
def mc0 (D : Hp) (m b ui : Addr) (k : Nat) (S : Nat -> LevS) : MC := ⟨D, m, b, k, 10, S, .iface 214 (.pointer (some ui))⟩
theorem spec59 {D} {m b ui : Addr} {S : Nat -> LevS} {n : Nat} {xs : List Value} {it kk lv im : Sl} {rev : Bool} {fv : Value} {R w} {K : Unit -> WP} (hxs : xs.length = 70) (hn : n <= 10) (hit : it.n = n) (hfv : fv.oneCell' = true)
  (h : Sat w (Arr m xs :: Arr b [.slice kk.a kk.n kk.c, .slice lv.a lv.n lv.c] :: Arr (b.add 2) [fv, .bool rev, .slice im.a im.n im.c] :: Buf 1 it (itVs S n) :: Fam n (itF S) :: Own D :: R))
  (k : ∀ w', Sat w' (hp (mX (mc0 D m b ui n S) (fun _ => -1)) (b.add 2) (m.add 50) rev 0 10 (fun _ => 0) (Arr m (mhd b ui) :: Arr b [.slice kk.a kk.n kk.c, .slice (some (m.add 10)) n 10] :: R)) -> K () w') : F59 (some m) (.mk (.func 45) #[] #[]) (.mk 214 (.pointer (some ui))) (some b) it K w := by
 unfold F59
 refine ⟨ones_of rfl, _, rfl, StL_all h (by rw [hxs]; rfl) (ones_of rfl) fun w h => ?_⟩
 have h2 : Sat w (Arr m (mhd b ui) :: Arr (m.add 10) (flat zrow 10) :: Arr (m.add 50) (flat (fun _ => [.pointer none, .int .i64 (0 : Int)]) 10) :: Arr b [.slice kk.a kk.n kk.c, .slice lv.a lv.n lv.c] :: Arr (b.add 2) [fv, .bool rev, .slice im.a im.n im.c] :: Buf 1 it (itVs S n) :: Fam n (itF S) :: Own D :: R) :=
  Sat.splits [mhd b ui, flat zrow 10, flat (fun _ => [.pointer none, .int .i64 (0 : Int)]) 10] h
 clear h
 have h3 := (((h2.t1.rows (k := 4) (fun j _ => rfl)).t2).rows (k := 2) (fun j _ => rfl)).t2
 unfold mhd at h3
 refine ⟨_, rfl, Ld1 h3 ⟨_, rfl, St1 h3 rfl fun w h => ?_⟩⟩
 refine ⟨_, rfl, Ld1 h ⟨_, rfl, Ld1 h ⟨_, rfl, Ld1 h ⟨_, rfl, Ld1 h ?_⟩⟩⟩⟩
 refine ⟨fun _ w => Sat w (Arr m (mhd b ui) :: Rws (m.add 50) 2 10 (fun _ => [.pointer none, .int .i64 (0 : Int)]) :: Rws (m.add 10) 4 10 zrow :: Arr b [.slice kk.a kk.n kk.c, .slice (some (m.add 10)) n 10] :: Arr (b.add 2) [cmpV, .bool rev, .slice (some (m.add 50)) 0 10] :: Buf 1 it (itVs S n) :: Fam n (itF S) :: Own D :: R), ?_, ?_⟩
 rotate_left
 ·refine ifd (fun _ => ?_) (fun hh => by omega)
  refine ⟨_, rfl, Ld1 h ⟨_, rfl, ⟨by omega, by omega⟩, _, rfl, St1 h rfl fun w h => ?_⟩⟩
  refine ⟨_, rfl, Ld1 h ⟨_, rfl, ⟨by omega, by omega⟩, _, rfl, St1 h rfl fun w h => ?_⟩⟩
  rw [Addr.add_add, hit] at h
  exact h
 clear h h2 h3
 intro _ w h
 unfold mhd at h
 refine ⟨_, rfl, Ld1 h ⟨_, rfl, Ld1 h ?_⟩⟩
 refine ⟨fun q (i : Int) w => ∃ j : Nat, i = j /\ j <= n /\ q = n - j /\ Sat w (Rws (m.add 10) 4 10 (lrow S j) :: Arr m (mhd b ui) :: Rws (m.add 50) 2 10 (fun _ => [.pointer none, .int .i64 (0 : Int)]) :: Arr b [.slice kk.a kk.n kk.c, .slice (some (m.add 10)) n 10] :: Arr (b.add 2) [cmpV, .bool rev, .slice (some (m.add 50)) 0 10] :: Buf 1 it (itVs S n) :: Fam n (itF S) :: Own D :: R),
  ⟨_, 0, rfl, Nat.zero_le _, rfl, ?_⟩, ?_⟩
 ·have e : Rws (m.add 10) 4 10 (lrow S 0) = Rws (m.add 10) 4 10 zrow := Rws.congr fun j _ => by unfold lrow; rw [if_neg om]
  rw [e]
  exact h.t2
 clear h
 rintro q i w ⟨j, rfl, hj, hq, h⟩
 have h' := h
 unfold mhd at h
 refine ifd (fun hlt => ?_) (fun hge => ?_)
 ·replace hlt : (j : Int) < n := hlt
  have hjn : j < n := by omega
  have ew : IntKind.i64.wrap ((j : Int) + 1) = ((j + 1 : Nat) : Int) := w1 om
  rw [ew, Int.toNat_natCast]
  obtain ⟨a, ha, hr⟩ := rdBuf (j := j) (v := .iface 223 (.pointer (some (S j).it))) (h'.near (w' := w.drew)) .k5 (by unfold itVs; rw [List.getElem?_map, List.getElem?_range hjn]; rfl)
  refine ⟨_, rfl, Ld1 h ⟨_, rfl, Ld1 h ?_⟩⟩
  refine ⟨⟨by omega, by rw [hit]; exact hlt⟩, a, ha, ?_⟩
  rw [Nat.mul_one]
  refine LdC (x := IV.mk 223 (.pointer (some (S j).it))) hr ?_
  refine ⟨ones_of rfl, ⟨by omega, hlt⟩, _, rfl, ?_⟩
  refine rowSet (k := 4) (j := j) (h'.near (w' := w.drew)) om ?_ rfl (ones_of rfl) fun w h => ?_
  ·unfold lrow zrow; split <;> rfl
  ·refine ⟨n - (j + 1), by omega, j + 1, rfl, hjn, rfl, ?_⟩
   rw [Rws.congr (g := lrow S (j + 1))] at h
   ·exact h
   ·intro i _
    by_cases e : i = j
    ·subst e; rw [upd_same]; unfold lrow; rw [if_pos om]; rfl
    ·rw [upd_other e]; unfold lrow
     by_cases e2 : i < j
     ·rw [if_pos e2, if_pos om]
     ·rw [if_neg e2, if_neg om]
 ·replace hge : ¬ (j : Int) < n := hge
  have : j = n := by omega
  subst this
  have h1 : Sat w (Fam j (fun i => Arr ((m.add 10).add (i * 4)) (lrow S j i)) :: Fam j (itF S) :: Arr m (mhd b ui) :: Rws (m.add 50) 2 10 (fun _ => [.pointer none, .int .i64 (0 : Int)]) :: Arr b [.slice kk.a kk.n kk.c, .slice (some (m.add 10)) j 10] :: Arr (b.add 2) [cmpV, .bool rev, .slice (some (m.add 50)) 0 10] :: Own D :: R) := by
   have h0 := Sat.fam_le hn h'
   have h1 := (h0.mv 5).tail
   exact ((h1.mv 5).mv 1)
  have h2 := h1.fam_merge (e := mlev (mc0 D m b ui j S) (fun _ => -1)) fun i hi g hg => by
   refine ⟨⟨none, 0, 0⟩, fun h0 => by dsimp only at h0; omega, ?_⟩
   have e1 : lkind ((mc0 D m b ui j S).S i).n (-1) = 0 := by unfold lkind; rw [if_neg om]
   have e2 : lptr ((mc0 D m b ui j S).S i) (-1) = none := by unfold lptr; rw [if_neg om]
   rw [e1, e2]
   unfold lrow at hg
   rw [if_pos hi] at hg
   exact hg
  have h3 := (h2.t2).fam_mono (d := slot (mX (mc0 D m b ui j S) (fun _ => -1)) (m.add 50) 0 (fun _ => 0)) fun i hi g hg => by
   unfold slot
   rw [if_neg om]
   exact ⟨_, _, hg⟩
  refine k w ?_
  unfold hp
  exact ((((((h3.mv 3).mv 3).mv 5).mv 4).mv 4).mv 5)
def ms0 : MSt := ⟨nl, nl, nl, nl, nl, 0, 0, nl, 0, [], nl, .empty, false, 0, fun _ => 0, fun _ => -1⟩
def uv0 : UV := ⟨.nilFunc, nl, 0, []⟩
def ds0 : DSt := ⟨none, 0, nl, nl, nl, 0, nl, nl, nl, fun _ => none, [], .empty⟩
theorem spec33 {D} {ui bf cq : Addr} {sn : Int} {S : Nat -> LevS} {n : Nat} {xs ys zs : List Value} {it : Sl} {R w} {K : IV -> WP} (hxs : xs.length = 70) (hys : ys.length = 9) (hzs : zs.length = 12) (hn : n <= 10) (hit : it.n = n)
  (hq0 : DAt D (cq.add 0) cmpV) (hq1 : DAt D (cq.add 1) eqV) (hq5 : DAt D (cq.add 5) .nilFunc)
  (h : Sat w (Arr ui [.int .u64 0, .pointer none] :: Arr (ui.add 2) xs :: Arr (ui.add 72) ys :: Arr (ui.add 81) zs :: Arr (ui.add 93) [.bool false] :: Arr (ui.add 94) [.pointer none] :: Arr bf [.slice none 0 0, .slice none 0 0] ::
   Arr (bf.add 2) [.nilFunc, .bool false, .slice none 0 0] :: Arr (bf.add 5) [.slice none 0 0] :: Arr (bf.add 6) [.slice none 0 0, .slice none 0 0, .slice none 0 0] :: Arr (bf.add 9) [.nilFunc, .slice none 0 0] :: Buf 1 it (itVs S n) :: Fam n (itF S) :: Own D :: R))
  (k : ∀ w', Sat w' (WX (mc0 D (ui.add 2) bf ui n S) ms0 ⟨ui, bf, cq, sn⟩ uv0 (ui.add 72) none (ui.add 81) ds0 R) -> K (.mk 222 (.pointer (some (ui.add 81)))) w') :
  F33 (some ui) (some cq) sn nl nl none none false (some bf) it K w := by
 unfold F33
 refine ⟨_, rfl, St1 h rfl fun w h => ⟨_, rfl, St1 h rfl fun w h => ⟨_, rfl, St1 h rfl fun w h => ?_⟩⟩⟩
 have hc0 := h.near (w' := w.drew)
 refine ⟨_, rfl, _, rfl, LdC (h.near.dat .k13 hq0) ⟨_, rfl, ?_⟩⟩
 have h1 : Sat w.drew (Arr (ui.add 2) xs :: Arr bf [.slice nl.a nl.n nl.c, .slice nl.a nl.n nl.c] :: Arr (bf.add 2) [.nilFunc, .bool false, .slice nl.a nl.n nl.c] :: Buf 1 it (itVs S n) :: Fam n (itF S) :: Own D :: Arr ui [.int .u64 sn, .pointer (some cq)] :: Arr (ui.add 72) ys :: Arr (ui.add 81) zs :: Arr (ui.add 93) [.bool false] :: Arr (ui.add 94) [.pointer none] :: Arr (bf.add 5) [.slice none 0 0] :: Arr (bf.add 6) [.slice none 0 0, .slice none 0 0, .slice none 0 0] :: Arr (bf.add 9) [.nilFunc, .slice none 0 0] :: R) := (((((((h.near (w' := w.drew)).mv 13).mv 13).mv 13).mv 10).mv 10).mv 6)
 refine call59 (cmp2 := .mk (.func 45) #[] #[]) (transformer3 := .mk 214 (.pointer (some ui))) (spec59 (S := S) (n := n) (b := bf) hxs hn hit rfl h1 fun w h => ?_)
 clear h1 hc0
 unfold hp at h
 refine ⟨_, rfl, _, rfl, LdC (h.near.dat .k3 hq0) ⟨_, rfl, LdC (h.near.dat .k3 hq5) ⟨_, rfl, ?_⟩⟩⟩
 refine call60 (cmp2 := .mk (.func 45) #[] #[]) (split3 := .nil) (iter4 := .mk 217 (.pointer (some (ui.add 2)))) ?_
 unfold F60
 have hB := h.mv 7
 simp only [mv] at hB
 refine ⟨ones_of rfl, _, rfl, StL_all hB (by rw [hys]; rfl) (ones_of rfl) fun w h => ?_⟩
 refine ifb (fun hh => by cases hh) (fun _ => ⟨_, rfl, _, rfl, _, rfl, ?_⟩)
 refine call61 (comparer2 := some cq) (iter3 := .mk 219 (.pointer (some (ui.add 72)))) (equal4 := .mk 214 (.pointer (some ui))) (reducer5 := .mk (.func 63) #[] #[]) ?_
 unfold F61
 refine ⟨_, rfl, LdC (h.near.dat .k4 hq1) ?_⟩
 have hD := h.mv 8
 simp only [mv] at hD
 refine ⟨ones_of rfl, _, rfl, StL_all hD (by rw [hzs]; rfl) (ones_of rfl) fun w h => ?_⟩
 refine ⟨_, rfl, St1 h rfl fun w h => ⟨_, rfl, ?_⟩⟩
 refine ⟨.mk 222 (.pointer (some (ui.add 81))), rfl, k w ?_⟩
 have e1 : Sat w (Spr nl :: Buf 3 nl [] :: Buf 1 nl (bytesOf .empty) :: _) := SatU.nil (show Spr nl _ from ⟨rfl, rfl, fun _ => rfl⟩) (Sat.bufNil 3 (Sat.bufNil 1 h))
 have e2 : Sat w (Buf 3 nl [] :: Buf 1 nl (bytesOf .empty) :: Buf 3 nl [] :: Own (fun _ => none) :: Spr nl :: Buf 3 nl [] :: Buf 1 nl (bytesOf .empty) :: _) := Sat.bufNil 3 (Sat.bufNil 1 (Sat.bufNil 3 (SatU.nil rfl e1)))
 exact (((((((((((((((((((((e2.mv 6).mv 6).mv 6).mv 6).mv 19).mv 8).mv 9).mv 9).mv 20).mv 19).mv 19).mv 19).mv 13).mv 13).mv 20).mv 20).mv 20).mv 20).mv 20).mv 20).mv 20)
def pkc (m : KeyM) : List Value := [.int .u64 m.tr, .string m.suf, .string m.val]
theorem pkc_one (m : KeyM) : ∀ v ∈ pkc m, v.oneCell' = true := ones_of rfl
theorem spec98 {x : Sl} {kg : Nat -> KC} {ks : List KeyM} {R w} {K : Sl -> WP} (hrd : ∀ w, Sat w R -> KSRd w x kg ks) (hlen : ks.length < 2^32) (h : Sat w R)
  (k : ∀ out w', out.n = ks.length -> Sat w' (Buf 3 out (ks.flatMap pkc) :: R) -> K out w') : F98 x K w := by
 unfold F98
 have hn : x.n = ks.length := (hrd w h).1
 refine ⟨fun m (z : Sl × Int) w => ∃ j : Nat, z.2 = j /\ j <= ks.length /\ m = ks.length - j /\ z.1.n = j /\ Sat w (Buf 3 z.1 ((ks.take j).flatMap pkc) :: R), ⟨_, 0, rfl, Nat.zero_le _, rfl, rfl, Sat.bufNil 3 h⟩, ?_⟩
 clear h
 rintro m ⟨out, i⟩ w ⟨j, e, hj, hm, hon, h⟩
 dsimp only at e hon |-
 subst e
 refine ifd (fun hlt => ?_) (fun hge => ?_)
 ·have hjl : j < ks.length := by omega
  have ew : IntKind.i64.wrap ((j : Int) + 1) = ((j + 1 : Nat) : Int) := w1 om
  rw [ew, Int.toNat_natCast]
  obtain ⟨e, he, hr, g0, g1, g2⟩ := (hrd w h.tail).2 j hjl
  have rds : ∀ w, Sat w R -> RdB w (kg j).2.1.a (kg j).2.1.n (ks[j]).suf /\ RdB w (kg j).2.2.a (kg j).2.2.n (ks[j]).val := fun w h => by
   obtain ⟨_, _, _, _, f1, f2⟩ := (hrd w h).2 j hjl
   exact ⟨f1, f2⟩
  unfold kcells at hr
  refine ⟨⟨by omega, hlt⟩, e, he, LdR hr ?_⟩
  refine NewP_run h fun n6 w h => StL_of (St1 h rfl fun w h => St1 h rfl fun w h => St1 h rfl fun w h => ?_)
  refine Ld1 h (Ld1 h ⟨_, (rds w h.tail.tail).1, Ld1 h ⟨_, (rds w h.tail.tail).2, ?_⟩⟩)
  refine NewS_run h fun p w h => ?_
  rw [g0] at h
  refine App1 (k := 3) rfl h .k2 .here rfl (pkc_one ks[j]) ?_ om fun r w er ea h => ?_
  ·show (2 * (out.n + 1) + 1024) * 40 <= _
   omega
  have h2 : Sat w (Buf 3 r ((ks.take j).flatMap pkc ++ pkc ks[j]) :: R) := (h.t1.tail).t1.tail
  refine ⟨_, ?_, j + 1, rfl, hjl, rfl, by show r.n = j + 1; omega, ?_⟩
  ·omega
  ·have e1 : ks.take (j + 1) = ks.take j ++ [ks[j]] := by rw [List.take_add_one, List.getElem?_eq_getElem hjl]; rfl
   rw [e1, List.flatMap_append]
   simpa using h2
 ·have : j = ks.length := by omega
  subst this
  rw [List.take_length] at h
  exact k out w hon h
theorem spec54 {x : Sl × Sl × Sl × Int} {kg : Nat -> KC} {lo hi : ByteArray} {ks : List KeyM} {R w} {K : ByteArray × ByteArray × Sl -> WP} (hrd : ∀ w, Sat w R -> RdB w x.1.a x.1.n lo /\ RdB w x.2.1.a x.2.1.n hi /\ KSRd w x.2.2.1 kg ks) (hlen : ks.length < 2^32) (h : Sat w R)
  (k : ∀ out w', out.n = ks.length -> Sat w' (Buf 3 out (ks.flatMap pkc) :: R) -> K (lo, hi, out) w') : F54 x K w := by
 unfold F54
 refine NewP_run h fun n2 w h => NewP_run h fun n3 w h => ?_
 have r0 := hrd w h.tail.tail
 refine Ld1 h ⟨lo, Near.rdB r0.1, Ld1 h ⟨hi, Near.rdB r0.2.1, Ld1 h ?_⟩⟩
 refine call98 (l1 := x.2.2.1) (spec98 (R := Arr n3 _ :: Arr n2 _ :: R) (fun w h => (hrd w h.tail.tail).2.2) hlen (h.near (w' := w.drew)) fun out w ho h => ?_)
 have r1 := hrd w h.tail.tail.tail
 refine ⟨r1.2.1, LdAt1 h, r1.1, LdAt1 h, StL_of (St1 h rfl fun w h => St1 h rfl fun w h => St1 h rfl fun w h => LdN h ?_)⟩
 exact k out w ho (h.t1.tail.t1.tail)
theorem Sat.drop {w} : ∀ (n : Nat) {L : List Chunk}, Sat w L -> Sat w (L.drop n)
 | 0, _, h => h
 | n + 1, [], h => h
 | n + 1, _ :: _, h => Sat.drop n h.tail
def AnsRes (c : MC) (v : UC) (kb : ByteArray) (okk : Bool) (lo hi : ByteArray) (ks : List KeyM) : Prop :=
 (okk = false /\ ks = [] /\ ¬ covd c kb) \/ (okk = true /\ ((bcmp lo kb <= 0 /\ bcmp kb hi < 0 /\ IsC v.sn (keysAt c kb) (ks.map svOf)) \/ (bcmp kb lo < 0 /\ ¬ covd c kb)))
theorem spec32 {c : MC} {v : UC} {bi di sp : Addr} {kb : ByteArray} {R w} {K : Sl -> WP} (cx : CtxOK c v) (hcq : DAt c.D (v.cq.add 0) cmpV) (h : Sat w (WX c ms0 v uv0 bi none di ds0 (Arr sp [.int .u8 4, .string kb] :: R)))
  (k : ∀ out okk lo hi kx ks w', AnsRes c v kb okk lo hi ks -> out.n = 1 -> kx.n = ks.length -> ks.length < 2^32 -> Sat w' (Buf 5 out [.bool true, .bool okk, .string lo, .string hi, .slice kx.a kx.n kx.c] :: Buf 3 kx (ks.flatMap pkc) :: Arr sp [.int .u8 4, .string kb] :: R) -> K out w') : F32 (.mk 222 (.pointer (some di))) ⟨some sp, 1, 1⟩ K w := by
 unfold F32
 refine ⟨fun m (z : Sl × Bool × Int × Int) w => (m = 1 /\ z = (nl, false, 0, 0) /\ Sat w (WX c ms0 v uv0 bi none di ds0 (Arr sp [.int .u8 4, .string kb] :: R))) \/ (m = 0 /\ z.2.2.2 = 1 /\ ∃ okk lo hi kx ks, AnsRes c v kb okk lo hi ks /\ z.1.n = 1 /\ kx.n = ks.length /\ ks.length < 2^32 /\
   Sat w (Buf 5 z.1 [.bool true, .bool okk, .string lo, .string hi, .slice kx.a kx.n kx.c] :: Buf 3 kx (ks.flatMap pkc) :: Arr sp [.int .u8 4, .string kb] :: R)), ⟨1, .inl ⟨rfl, rfl, h⟩⟩, ?_⟩
 clear h
 rintro m z w (⟨rfl, rfl, h⟩ | ⟨rfl, hz, okk, lo, hi, kx, ks, ha, ho, hk, hl, h⟩)
 rotate_left
 ·rw [hz]
  refine ifd (fun hh => by dsimp only at hh; omega) (fun _ => k _ okk lo hi kx ks w ha ho hk hl h)
 dsimp only
 refine ifd (fun _ => ?_) (fun hh => by omega)
 refine ⟨⟨by omega, by omega⟩, sp, rfl, ?_⟩
 rw [show (0 : Int).toNat * 2 = 0 from rfl, Addr.add_zero]
 have hst := h.rdL .k21
 refine LdR hst ?_
 refine NewP_run h fun n7 w h => StL_of (St1 h rfl fun w h => St1 h rfl fun w h => ?_)
 refine Ld1 h ?_
 refine call58 ?_
 unfold F58
 refine ⟨fun b w => b = true /\ Sat w (Arr n7 [.int .u8 4, .string kb] :: WX c ms0 v uv0 bi none di ds0 (Arr sp [.int .u8 4, .string kb] :: R)), ?_, ?_⟩
 rotate_left
 ·exact ife (fun hh => by omega) fun _ => ife (fun hh => by omega) fun _ => ife (fun _ => ⟨rfl, h⟩) fun hh => (hh rfl).elim
 clear h hst
 rintro _ w ⟨rfl, h⟩
 refine ifb (fun _ => ?_) (fun hh => by cases hh)
 refine ifn (fun hh => by cases hh) (fun _ => ?_)
 have h21 : Sat w (WX c ms0 v uv0 bi none di ds0 (Arr n7 [.int .u8 4, .string kb] :: Arr sp [.int .u8 4, .string kb] :: R)) := h.pt 21
 clear h
 refine ⟨fun (x : Option Addr) w => ∃ s' u' isp' d', Sat w (WX c s' v u' bi isp' di d' (Arr n7 [.int .u8 4, .string kb] :: Arr sp [.int .u8 4, .string kb] :: R)) /\ SeekRes c v kb x (fun p x kg lo hi ks => ∀ R'' w'', Sat w'' (WX c s' v u' bi isp' di d' R'') -> SpanRd w'' p x kg lo hi ks), ?_, ?_⟩
 rotate_left
 ·have hn7 := h21.rdL .k21
  refine LdC (v := .int .u8 4) (hn7 0 _ rfl) ?_
  refine ife (fun hh => by omega) fun _ => ife (fun hh => by omega) fun _ => ife (fun hh => by omega) fun _ => ife (fun hh => by omega) fun _ => ife (fun _ => ?_) fun hh => (hh rfl).elim
  refine LdC (v := .string kb) (hn7 1 _ rfl) ?_
  refine BytesP_run h21 fun p cc w hcc h => ?_
  have h22 : Sat w (WX c ms0 v uv0 bi none di ds0 (Arr p (bytesOf kb ++ List.replicate (cc - kb.size) (Value.int .u8 0)) :: Arr n7 [.int .u8 4, .string kb] :: Arr sp [.int .u8 4, .string kb] :: R)) := h.pt 21
  refine CallI_run m222SeekGE (call260 (key2 := ⟨some p, kb.size, cc⟩) (spec260 (kb := kb) cx ⟨Nat.le_refl _, by decide⟩ (by decide) hcq .here (fun w L h => ⟨rfl, (h.rdL .here).left⟩) h22 fun r s' u' isp' d' w h hr => ?_))
  exact ⟨s', u', isp', d', (h.mv 21).tail, hr⟩
 clear h21
 rintro x w ⟨s', u', isp', d', h, hres⟩
 refine NewP_run h fun n14 w h => StL_of (St1 h rfl fun w h => St1 h rfl fun w h => St1 h rfl fun w h => St1 h rfl fun w h => St1 h rfl fun w h => ?_)
 refine ⟨fun _ w => ∃ okk lo hi kx ks, AnsRes c v kb okk lo hi ks /\ kx.n = ks.length /\ ks.length < 2^32 /\ Sat w (Arr n14 [.bool true, .bool okk, .string lo, .string hi, .slice kx.a kx.n kx.c] :: Buf 3 kx (ks.flatMap pkc) :: Arr n7 [.int .u8 4, .string kb] :: Arr sp [.int .u8 4, .string kb] :: R), ?_, ?_⟩
 ·clear h hres
  rintro _ w ⟨okk, lo, hi, kx, ks, ha, hk, hl, h⟩
  refine Ld1 h (LdN h (NewS_run h fun p w h => ?_))
  refine App1 (k := 5) (old := []) (new := [.bool true, .bool okk, .string lo, .string hi, .slice kx.a kx.n kx.c]) rfl (h.bufNil 5) .here .k1 rfl (ones_of rfl) (by decide) (by decide) fun r w er ea h => ?_
  refine ⟨0, by omega, .inr ⟨rfl, by rw [wi64 om om]; rfl, okk, lo, hi, kx, ks, ha, er, hk, hl, ?_⟩⟩
  have h2 := (h.t1.tail).t1.tail
  exact (h2.mv 2).tail
 ·rcases hres with ⟨rfl, hnc⟩ | ⟨p, xx, kg, lo, hi, ks, rfl, hrd, hlen, hres⟩
  ·refine ifNNone ⟨false, .empty, .empty, nl, [], .inl ⟨rfl, rfl, hnc⟩, rfl, by decide, ?_⟩
   have h2 : Sat w (Arr n14 [.bool true, .bool false, .string .empty, .string .empty, .slice none 0 0] :: Arr n7 [.int .u8 4, .string kb] :: Arr sp [.int .u8 4, .string kb] :: R) := Sat.drop 21 (h.pt 21)
   exact (h2.bufNil 3).t1
  ·have h0 := hrd _ _ h.tail
   refine ifNSome ⟨_, rfl, LdR h0.1 ?_⟩
   refine call54 (s1 := xx) (spec54 (R := Arr n14 _ :: WX c s' v u' bi isp' di d' _) (fun w h => (hrd _ w h.tail).2) hlen h fun out w ho h => ?_)
   refine St1 h rfl fun w h => StL_of (St1 h rfl fun w h => St1 h rfl fun w h => St1 h rfl fun w h => ?_)
   refine ⟨true, lo, hi, out, ks, .inr ⟨rfl, hres⟩, ho, hlen, ?_⟩
   exact Sat.drop 21 ((h.pt 22).pt 21)
end Go.Proofs.YtpkoddfamelnhaaGreatDoor
