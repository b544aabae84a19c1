/- Part 22 of the proof of fnBatchSeenTwice_card. Conditions: none. -/
import Derived.Test.YtpkoddfamelnhaaGreatDoorT21
set_option linter.unusedVariables false
set_option linter.unusedSimpArgs false
namespace Go.Tr
theorem ifnef {a b : Int} {A B : Prop} (x : a ≠ b -> B) (y : a = b -> A) : if (a != b) = false then A else B := by
 by_cases h : a = b
 ·rw [if_pos (by simpa using h)]; exact y h
 ·rw [if_neg (by simpa using h)]; exact x h
theorem ifSomeF {α : Type} {x : α} {A B : Prop} (a : A) : if (some x).isNone = false then A else B := by rw [if_pos (by simp)]; exact a
def pt : Nat -> List Chunk -> List Chunk
 | 0, L => L
 | _ + 1, [] => []
 | _ + 1, [c] => [c]
 | n + 1, c :: d :: L => d :: pt n (c :: L)
theorem SatU.pt {w} : ∀ (n : Nat) {L} {U : Addr -> Prop}, SatU w U L -> SatU w U (Go.Tr.pt n L)
 | 0, _, _, h => h
 | _ + 1, [], _, h => h
 | _ + 1, [_], _, h => h
 | n + 1, c :: d :: L, U, h => SatU.under (fun U h => SatU.pt n h) U (SatU.swap h)
theorem Sat.pt {w} (n : Nat) {L} (h : Sat w L) : Sat w (Go.Tr.pt n L) := SatU.pt n h
end Go.Tr
namespace Go.Proofs.YtpkoddfamelnhaaGreatDoor
open Go Go.Tr
set_option maxRecDepth 100000
theorem rdRows {w} : ∀ (ks : List KC) (e : Addr), RdL w e (ks.flatMap kcells) -> ∀ (j : Nat) (hj : j < ks.length), RdL w (e.add (j * 3)) (kcells ks[j])
 | [], _, _, j, hj => by simp at hj
 | k :: ks, e, h, j, hj => by
  rw [List.flatMap_cons] at h
  cases j with
  | zero => rw [Nat.zero_mul]; exact h.left
  | succ j =>
   have h2 := rdRows ks _ h.right j (by simpa using hj)
   rw [Addr.add_add, show (kcells k).length + j * 3 = (j + 1) * 3 by show 3 + j * 3 = _; omega] at h2
   exact h2
theorem bufRow {w L R} {b : Sl} {ks : List KC} (h : Sat w L) (t : Take L (Buf 3 b (ks.flatMap kcells)) R) {j : Nat} (hj : j < ks.length) : ∃ e, b.a = some e /\ RdL w (e.add (j * 3)) (kcells ks[j]) := by
 obtain ⟨g, hg, hh, _⟩ := h.take t
 unfold Buf at hg
 cases ha : b.a with
 | none =>
  rw [ha] at hg
  have := congrArg List.length hg.2.2.1
  rw [kcells_flat_len] at this
  simp only [List.length_nil] at this
  omega
 | some e =>
  rw [ha] at hg
  obtain ⟨h1, sp, h2, h3⟩ := hg
  exact ⟨e, rfl, rdRows ks e (RdL.left (ys := sp) fun j v ev => (hh _ _ (h3.1 j v ev)).1) j hj⟩
theorem SVs.mono {D D' : Hp} (hd : D.le D') : ∀ {l : List KC} {s : List (ByteArray × ByteArray)}, SVs D l s -> SVs D' l s
 | [], [], _ => trivial
 | [], _ :: _, h => h.elim
 | _ :: _, [], h => h.elim
 | _ :: _, _ :: _, ⟨h1, h2⟩ => ⟨⟨h1.1.mono hd, h1.2.mono hd⟩, SVs.mono hd h2⟩
theorem SVs.app {D} : ∀ {a c : List KC} {b d : List (ByteArray × ByteArray)}, SVs D a b -> SVs D c d -> SVs D (a ++ c) (b ++ d)
 | [], _, [], _, _, k => k
 | [], _, _ :: _, _, h, _ => h.elim
 | _ :: _, _, [], _, h, _ => h.elim
 | _ :: _, _, _ :: _, _, ⟨h1, h2⟩, k => ⟨h1, SVs.app h2 k⟩
structure DSt where
 isp : Option Addr
 ipos : Int
 cs : Sl
 ce : Sl
 ck : Sl
 ord : Int
 A : Sl
 KB : Sl
 kb : Sl
 D2 : Hp
 ks : List KC
 kbb : ByteArray
def DL (v : UC) (di bi : Addr) (d : DSt) (R : List Chunk) : List Chunk :=
 Arr di [.pointer (some (v.bf.add 6)), .pointer (some v.cq), eqV, .iface 219 (.pointer (some bi)), .pointer d.isp, .int .i8 d.ipos, .slice d.cs.a d.cs.n d.cs.c, .slice d.ce.a d.ce.n d.ce.c, .slice d.ck.a d.ck.n d.ck.c, .int .i8 d.ord, .iface 214 (.pointer (some v.ui)), .func (.func 63) #[] #[]] ::
 Arr (v.bf.add 6) [.slice d.A.a d.A.n d.A.c, .slice d.KB.a d.KB.n d.KB.c, .slice d.kb.a d.kb.n d.kb.c] :: Own d.D2 :: Spr d.A :: Buf 3 d.KB (d.ks.flatMap kcells) :: Buf 1 d.kb (bytesOf d.kbb) :: R
def DR (v : UC) (di bi : Addr) (d : DSt) (R : List Chunk) : List Chunk :=
 Arr di [.pointer (some (v.bf.add 6)), .pointer (some v.cq), eqV, .iface 219 (.pointer (some bi)), .pointer d.isp, .int .i8 d.ipos, .slice d.cs.a d.cs.n d.cs.c, .slice d.ce.a d.ce.n d.ce.c, .slice d.ck.a d.ck.n d.ck.c, .int .i8 d.ord, .iface 214 (.pointer (some v.ui)), .func (.func 63) #[] #[]] ::
 Arr (v.bf.add 6) [.slice d.A.a d.A.n d.A.c, .slice d.KB.a d.KB.n d.KB.c, .slice d.kb.a d.kb.n d.kb.c] :: Buf 3 d.KB (d.ks.flatMap kcells) :: Buf 1 d.kb (bytesOf d.kbb) :: R
def WX (c : MC) (s : MSt) (v : UC) (u : UV) (bi : Addr) (isp : Option Addr) (di : Addr) (d : DSt) (R : List Chunk) : List Chunk := MSU c s v u (BI c bi isp :: DL v di bi d R)
theorem spec266 {c : MC} {s : MSt} {v : UC} {u : UV} {bi di : Addr} {isp : Option Addr} {d : DSt} {R} {kc : Chunk} {b : Sl} {t : ByteArray} {w} {K : Sl -> WP} (hA : d.A.c <= 2^41) (ht : t.size < 2^40) (hk : ∀ L0, ∃ R', Take (MSU c s v u L0) kc R') (hsrc : ∀ w L, Sat w (kc :: L) -> RdB w b.a b.n t)
  (h : Sat w (WX c s v u bi isp di d R)) (k : ∀ A' r D2' w', A'.c <= 2^41 -> d.D2.le D2' -> BytesAt D2' r t -> Sat w' (WX c s v u bi isp di { d with A := A', D2 := D2' } R) -> K r w') : F266 (some di) b K w := by
 unfold F266
 have hrd := hsrc w _ (h.take (hk _).choose_spec)
 obtain ⟨a, n, cc⟩ := b
 cases a with
 | none => exact ifNone (α := Addr) (k d.A _ d.D2 _ hA (Hp.le_refl _) hrd h.near)
 | some a =>
  have h' := h
  unfold WX MSU MSL hp MSR UIL DL at h
  refine ifSome (α := Addr) ⟨_, rfl, Ld1 h ⟨_, rfl, Ld1 h ⟨_, rfl, Ld1 h ?_⟩⟩⟩
  have hn : t.size = n := hrd.1
  have h3 : Sat w (Own d.D2 :: Spr d.A :: MSU c s v u (BI c bi isp :: DR v di bi d R)) := (h'.mv 18).mv 18
  refine call267 (a1 := ⟨d.A.a, d.A.n, d.A.c⟩) (src2 := ⟨some a, n, cc⟩) (spec267 (s := t) (kc := kc) (D2 := d.D2) hA (by dsimp only; omega) hn (hk _).choose_spec hsrc h3.near fun A' r D2' w a1 a2 a3 h => ?_)
  unfold MSU MSL hp MSR UIL DR at h
  refine ⟨LdAt1 h, _, rfl, St1 h rfl fun w h => ?_⟩
  exact k A' r D2' w a1 a2 a3 ((h.pt 18).pt 18)
theorem MSU.takeD {c : MC} {s : MSt} {v : UC} {u : UV} (L0 : List Chunk) : ∃ R', Take (MSU c s v u L0) (Own c.D) R' := ⟨_, .there .k2⟩
theorem MSU.takeB {c : MC} {s : MSt} {v : UC} {u : UV} (L0 : List Chunk) : ∃ R', Take (MSU c s v u L0) (Buf 1 s.buf (bytesOf s.bb)) R' := ⟨_, .there .k7⟩
theorem rdBuf1 {w} {b : Sl} {t : ByteArray} {L} (h : Sat w (Buf 1 b (bytesOf t) :: L)) : RdB w b.a b.n t := by
 obtain ⟨g, hg, hh, _⟩ := h
 unfold Buf at hg
 cases ha : b.a with
 | none =>
  rw [ha] at hg
  have h1 := congrArg List.length hg.2.2.1
  rw [bytesOf_length] at h1
  exact ByteArray.ext (Array.eq_empty_of_size_eq_zero h1)
 | some a =>
  rw [ha] at hg
  obtain ⟨h1, sp, h2, h3⟩ := hg
  rw [bytesOf_length] at h1
  exact ⟨by omega, RdL.left (ys := sp) fun j v e => (hh _ _ (h3.1 j v e)).1⟩
theorem save {c : MC} {s : MSt} {v : UC} {u : UV} {bi di : Addr} {isp : Option Addr} {d : DSt} {R} {b : Sl} {t : ByteArray} {w} {K : Sl -> WP} (hA : d.A.c <= 2^41) (ht : t.size < 2^40) (hb : BytesAt c.D b t \/ (b = s.buf /\ t = s.bb))
  (h : Sat w (WX c s v u bi isp di d R)) (k : ∀ A' r D2' w', A'.c <= 2^41 -> d.D2.le D2' -> BytesAt D2' r t -> Sat w' (WX c s v u bi isp di { d with A := A', D2 := D2' } R) -> K r w') : F266 (some di) b K w := by
 rcases hb with hb | ⟨rfl, rfl⟩
 ·exact spec266 hA ht MSU.takeD (fun w L h => h.rdB .here hb) h k
 ·exact spec266 hA ht MSU.takeB (fun w L h => rdBuf1 h) h k
structure DOk (d : DSt) (a b : ByteArray) (svs : List (ByteArray × ByteArray)) : Prop where
 A : d.A.c <= 2^41
 cs : BytesAt d.D2 d.cs a \/ (d.cs = d.kb /\ a = d.kbb)
 ce : BytesAt d.D2 d.ce b \/ (d.ce = d.kb /\ b = d.kbb)
 ck : d.ck = d.KB
 kn : d.KB.n = d.ks.length
 sv : SVs d.D2 d.ks svs
 ord : d.ord = 1
theorem vis_small {c : MC} {v : UC} (cx : CtxOK c v) {a : ByteArray} {svs : List (ByteArray × ByteArray)} (h : IsC v.sn (keysAt c a) svs) : ∀ p ∈ svs, p.1.size < 2^40 /\ p.2.size < 2^40 := fun ⟨x, y⟩ hp => by
 obtain ⟨m, hm, _, _, rfl, rfl, _⟩ := (h.mem x y).1 hp
 unfold keysAt at hm
 simp only [List.mem_flatMap, List.mem_range] at hm
 obtain ⟨l, hl, hm⟩ := hm
 cases e : covs (c.S l).spans a with
 | none => rw [e] at hm; simp at hm
 | some sp =>
  rw [e] at hm
  obtain ⟨j, hj, _⟩ := covs_some e
  exact cx.kz l hl sp (List.mem_of_getElem? hj) m hm
theorem IsB.small {c : MC} (lo : LevsOK c) {a : ByteArray} (h : IsB c a) : a.size < 2^40 := by
 obtain ⟨l, hl, p, hp, rfl⟩ := h
 exact bkey_sz (lo l hl) p
theorem spec262 {c : MC} {s : MSt} {v : UC} {u : UV} {bi di : Addr} {isp : Option Addr} {d : DSt} {R} {a b : ByteArray} {sets : List KC} {svs : List (ByteArray × ByteArray)} {w} {K : Unit -> WP} (cx : CtxOK c v) (hA : d.A.c <= 2^41) (hisp : d.isp = some (c.m.add 4))
  (fr : Frag c v.sn s a b sets) (hsv : SVs c.D sets svs) (hc : IsC v.sn (keysAt c a) svs) (hlen : sets.length < 2^32) (h : Sat w (WX c s v u bi isp di d R))
  (k : ∀ d' w', DOk d' a b svs -> BytesAt d'.D2 d'.cs a -> BytesAt d'.D2 d'.ce b -> d'.isp = d.isp -> d'.ipos = d.ipos -> Sat w' (WX c s v u bi isp di d' R) -> K () w') : F262 (some di) K w := by
 obtain ⟨start, end_, s0, s1, s2, s3, dir, keys, kn, kcs, buf, bb, rev, N, f, pos⟩ := s
 obtain ⟨st, en, e0, e1, e2, e3, e4, e5, lt, ba, bbd, cv, vi⟩ := fr
 dsimp only at e0 e1 e2 e3 e4 e5
 subst e0 e1 e2 e3 e4 e5
 obtain ⟨isp', ipos, cs, ce, ck, ord, A, KB, kb, D2, ks, kbb⟩ := d
 dsimp only at hisp hA
 subst hisp
 have hvz := vis_small cx hc
 have ha := ba.small cx.lo
 have hb := bbd.small cx.lo
 unfold F262
 have h' := h
 unfold WX MSU MSL hp MSR UIL DL at h
 refine ⟨_, rfl, Ld1 h ⟨_, rfl, Ld1 h ?_⟩⟩
 refine call194 (a1 := ⟨A.a, A.n, A.c⟩) ?_
 unfold F194
 refine ⟨⟨by omega, by dsimp only; omega⟩, ?_⟩
 refine ⟨_, rfl, Ld1 h ⟨_, rfl, Ld1 h ⟨_, rfl, Ld1 h ⟨⟨by omega, by dsimp only; omega⟩, _, rfl, St1 h rfl fun w h => ?_⟩⟩⟩⟩
 refine ⟨_, rfl, Ld1 h ⟨_, rfl, Ld1 h ⟨_, rfl, Ld1 h ⟨⟨by omega, by dsimp only; omega⟩, _, rfl, St1 h rfl fun w h => ?_⟩⟩⟩⟩
 have h1 := (bufTrunc (h.mv 19)).pt 19
 have h2 : Sat w (WX c _ v u bi isp di ⟨some (c.m.add 4), ipos, cs, ce, ck, ord, A, ⟨KB.a, 0, KB.c⟩, ⟨kb.a, 0, kb.c⟩, D2, [], .empty⟩ R) := (bufTrunc (h1.mv 20)).pt 20
 clear h h1 h'
 have h := h2
 unfold WX MSU MSL hp MSR UIL DL at h
 refine ⟨_, rfl, Ld1 h (ifSome (α := Addr) ⟨_, rfl, Ld1 h ⟨_, rfl, Ld1 h ⟨_, rfl, Ld1 h ⟨_, rfl, Ld1 h ⟨_, rfl, Ld1 h ⟨_, rfl, Ld1 h ?_⟩⟩⟩⟩⟩⟩)⟩
 refine call266 (b2 := ⟨s0.a, s0.n, s0.c⟩) (save (t := a) hA ha st.2 h2.near fun A1 r1 D3 w a1 a2 a3 h2 => ?_)
 clear h
 have h := h2
 unfold WX MSU MSL hp MSR UIL DL at h
 refine ⟨LdAt1 h, LdAt1 h, LdAt1 h, LdAt1 h, ?_⟩
 refine call266 (b2 := ⟨s1.a, s1.n, s1.c⟩) (save (t := b) a1 hb en.2 h2.near fun A2 r2 D4 w b1 b2 b3 h2 => ?_)
 clear h
 have h := h2
 unfold WX MSU MSL hp MSR UIL DL at h
 refine ⟨LdAt1 h, LdAt1 h, _, rfl, StL_of (St1 h rfl fun w h => St1 h rfl fun w h => St1 h rfl fun w h => St1 h rfl fun w h => ?_)⟩
 refine ⟨_, rfl, Ld1 h ⟨_, rfl, Ld1 h ?_⟩⟩
 have hsl := hsv.len
 refine ⟨fun m (i : Int) w => ∃ (j : Nat) (A KB : Sl) (D5 : Hp) (ks : List KC), i = j /\ j <= sets.length /\ m = sets.length - j /\ A.c <= 2^41 /\ D4.le D5 /\ SVs D5 ks (svs.take j) /\ ks.length = j /\ KB.n = j /\
  Sat w (WX c ⟨s0, s1, s0, s1, ⟨keys.a, sets.length, keys.c⟩, 1, dir, keys, sets.length, sets.flatMap kcells, buf, bb, rev, N, f, pos⟩ v u bi isp di ⟨some (c.m.add 4), ipos, r1, r2, ⟨none, 0, 0⟩, 1, A, KB, ⟨kb.a, 0, kb.c⟩, D5, ks, .empty⟩ R), ⟨_, 0, A2, ⟨KB.a, 0, KB.c⟩, D4, [], rfl, Nat.zero_le _, rfl, b1, Hp.le_refl _, trivial, rfl, rfl, h⟩, ?_⟩
 clear h h2
 rintro m i w ⟨j, A, KB, D5, ks, rfl, hj, hm, hA5, hD5, hks, hkl, hKB, h2⟩
 have h := h2
 unfold WX MSU MSL hp MSR UIL DL at h
 refine ifd (fun hlt => ?_) (fun hge => ?_)
 ·have hjl : j < sets.length := by dsimp only at hlt; omega
  have hjs : j < svs.length := by omega
  have ew : IntKind.i64.wrap ((j : Int) + 1) = ((j + 1 : Nat) : Int) := w1 om
  rw [ew, Int.toNat_natCast]
  obtain ⟨e, he, hr⟩ := bufRow (ks := sets) (b := ⟨keys.a, sets.length, keys.c⟩) (h2.near (w' := w.drew)) .k7 hjl
  dsimp only at he
  have hz := hvz svs[j] (List.getElem_mem hjs)
  obtain ⟨hs1, hs2⟩ := hsv.get j hjl hjs
  refine ⟨_, rfl, Ld1 h ⟨_, rfl, Ld1 h ⟨_, rfl, Ld1 h ⟨_, rfl, Ld1 h ⟨_, rfl, Ld1 h ⟨⟨by omega, hlt⟩, e, he, LdC (hr 0 _ rfl) ?_⟩⟩⟩⟩⟩⟩
  refine ⟨_, rfl, Ld1 h ⟨_, rfl, Ld1 h ⟨⟨by omega, hlt⟩, e, he, LdC (hr 1 _ rfl) ?_⟩⟩⟩
  refine ⟨_, rfl, Ld1 h ⟨_, rfl, Ld1 h ⟨⟨by omega, hlt⟩, e, he, LdC (hr 2 _ rfl) ?_⟩⟩⟩
  refine call266 (b2 := sets[j].2.1) (save (t := svs[j].1) hA5 hz.1 (.inl hs1) h2.near fun A6 q1 D6 w c1 c2 c3 h2 => ?_)
  clear h
  have h := h2
  unfold WX MSU MSL hp MSR UIL DL at h
  have hr2 : RdL w (e.add (j * 3)) (kcells sets[j]) := by
   obtain ⟨e', he', hr'⟩ := bufRow (ks := sets) (b := ⟨keys.a, sets.length, keys.c⟩) h2 .k7 hjl
   dsimp only at he'
   rw [he] at he'
   injection he' with he'
   rw [he']; exact hr'
  refine ⟨hr2 2 _ rfl, LdAt1 h, LdAt1 h, hr2 0 _ rfl, LdAt1 h, LdAt1 h, LdAt1 h, LdAt1 h, LdAt1 h, ?_⟩
  refine call266 (b2 := sets[j].2.2) (save (t := svs[j].2) c1 hz.2 (.inl hs2) h2 fun A7 q2 D7 w d1 d2 d3 h2 => ?_)
  clear h hr2
  have h := h2
  unfold WX MSU MSL hp MSR UIL DL at h
  have hr2 : RdL w (e.add (j * 3)) (kcells sets[j]) := by
   obtain ⟨e', he', hr'⟩ := bufRow (ks := sets) (b := ⟨keys.a, sets.length, keys.c⟩) h2 .k7 hjl
   dsimp only at he'
   rw [he] at he'
   injection he' with he'
   rw [he']; exact hr'
  refine ⟨hr2 0 _ rfl, LdAt1 h, LdAt1 h, LdAt1 h, LdAt1 h, LdAt1 h, ?_⟩
  refine NewS_run h fun p w h => ⟨LdAt1 h, LdAt1 h, LdAt1 h, ?_⟩
  refine App1 (k := 3) rfl h .k20 .here rfl (kcells_one (sets[j].1, q1, q2)) ?_ (by dsimp only; omega) fun r w er ea h => ?_
  ·show (2 * (KB.n + 1) + 1024) * 56 <= _
   omega
  replace h := h.t1.tail
  refine ⟨LdAt1 h, _, rfl, St1 h rfl fun w h => ?_⟩
  refine ⟨_, ?_, j + 1, A7, r, D7, ks ++ [(sets[j].1, q1, q2)], rfl, hjl, rfl, d1, (hD5.trans c2).trans d2, ?_, by simp [hkl], by dsimp only at er; omega, ?_⟩
  ·omega
  ·have e1 : svs.take (j + 1) = svs.take j ++ [svs[j]] := by rw [List.take_add_one, List.getElem?_eq_getElem hjs]; rfl
   rw [e1]
   exact (hks.mono (c2.trans d2)).app ⟨⟨c3.mono d2, d3⟩, trivial⟩
  ·have e1 : (ks ++ [(sets[j].1, q1, q2)]).flatMap kcells = ks.flatMap kcells ++ kcells (sets[j].1, q1, q2) := by simp [List.flatMap_append]
   unfold WX MSU MSL hp MSR UIL DL
   rw [e1]
   exact h.pt 19
 ·have : j = sets.length := by dsimp only at hge; omega
  subst this
  refine ⟨_, rfl, Ld1 h ⟨_, rfl, Ld1 h ⟨_, rfl, St1 h rfl fun w h => ?_⟩⟩⟩
  refine k ⟨some (c.m.add 4), ipos, r1, r2, KB, 1, A, KB, ⟨kb.a, 0, kb.c⟩, D5, ks, .empty⟩ w ⟨hA5, .inl ((a3.mono b2).mono hD5), .inl (b3.mono hD5), rfl, by dsimp only; omega, ?_, rfl⟩ ((a3.mono b2).mono hD5) (b3.mono hD5) rfl rfl h
  rwa [hsl, List.take_length] at hks
theorem m214Should : MethAt Tryz.prog 214 "ShouldDefragment" 197 := by intro v w; kernel_rfl
theorem spec197 {c : MC} {s : MSt} {v : UC} {u : UV} {bi di : Addr} {isp : Option Addr} {d : DSt} {R} {a b x y : ByteArray} {sets : List KC} {svs svs2 : List (ByteArray × ByteArray)} {w} {K : Bool -> WP}
  (fr : Frag c v.sn s a b sets) (hsv : SVs c.D sets svs) (hd : DOk d x y svs2) (hlen : sets.length < 2^32) (h : Sat w (WX c s v u bi isp di d R))
  (k : ∀ r w', (r = true ↔ svs = svs2 /\ sets.length ≠ 0) -> Sat w' (WX c s v u bi isp di d R) -> K r w') : F197 (some v.ui) (.mk (.func 46) #[] #[]) (some (c.m.add 4)) (some (di.add 6)) K w := by
 obtain ⟨start, end_, s0, s1, s2, s3, dir, keys, kn, kcs, buf, bb, rev, N, f, pos⟩ := s
 obtain ⟨st, en, e0, e1, e2, e3, e4, e5, lt, ba, bbd, cv, vi⟩ := fr
 dsimp only at e0 e1 e2 e3 e4 e5
 subst e0 e1 e2 e3 e4 e5
 obtain ⟨isp', ipos, cs, ce, ck, ord, A, KB, kb, D2, ks, kbb⟩ := d
 obtain ⟨d1, d2, d3, d4, d5, d6, d7⟩ := hd
 dsimp only at d1 d2 d3 d4 d5 d6 d7
 subst d4 d7
 have hl1 := hsv.len
 have hl2 := d6.len
 have h0 := h
 unfold F197
 refine ⟨fun _ w => Sat w (WX c ⟨s0, s1, s0, s1, ⟨keys.a, sets.length, keys.c⟩, 1, dir, keys, sets.length, sets.flatMap kcells, buf, bb, rev, N, f, pos⟩ v u bi isp di ⟨isp', ipos, cs, ce, ck, 1, A, ck, kb, D2, ks, kbb⟩ R), ?_, ?_⟩
 rotate_left
 ·unfold WX MSU MSL hp MSR UIL DL at h
  exact ⟨_, rfl, Ld1 h (ifb (fun hh => by cases hh) fun _ => h0)⟩
 clear h h0
 intro _ w h'
 refine ⟨fun _ w => ks.length = sets.length /\ sets.length ≠ 0 /\ Sat w (WX c ⟨s0, s1, s0, s1, ⟨keys.a, sets.length, keys.c⟩, 1, dir, keys, sets.length, sets.flatMap kcells, buf, bb, rev, N, f, pos⟩ v u bi isp di ⟨isp', ipos, cs, ce, ck, 1, A, ck, kb, D2, ks, kbb⟩ R), ?_, ?_⟩
 rotate_left
 ·have h := h'
  unfold WX MSU MSL hp MSR UIL DL at h
  refine ⟨_, rfl, Ld1 h ⟨_, rfl, Ld1 h ?_⟩⟩
  refine ifnef (fun e => ?_) (fun e => ?_)
  ·replace e : (sets.length : Int) ≠ ck.n := e
   refine k false _ ?_ h'.near
   simp only [Bool.false_eq_true, false_iff]
   rintro ⟨rfl, _⟩
   omega
  ·replace e : (sets.length : Int) = ck.n := e
   refine ⟨_, rfl, Ld1 h ?_⟩
   refine ife (fun hz => ?_) (fun hnz => ?_)
   ·replace hz : (sets.length : Int) = 0 := hz
    refine k false _ ?_ h'.near
    simp only [Bool.false_eq_true, false_iff]
    rintro ⟨_, h2⟩
    omega
   ·replace hnz : ¬ (sets.length : Int) = 0 := hnz
    exact ⟨by omega, by omega, h'.near⟩
 clear h'
 rintro _ w ⟨hlk, hnz, h'⟩
 refine ⟨fun _ w => Sat w (WX c ⟨s0, s1, s0, s1, ⟨keys.a, sets.length, keys.c⟩, 1, dir, keys, sets.length, sets.flatMap kcells, buf, bb, rev, N, f, pos⟩ v u bi isp di ⟨isp', ipos, cs, ce, ck, 1, A, ck, kb, D2, ks, kbb⟩ R), ?_, ?_⟩
 rotate_left
 ·have h := h'
  unfold WX MSU MSL hp MSR UIL DL at h
  refine ⟨_, rfl, Ld1 h (ifnef (fun hh => absurd rfl hh) fun _ => ⟨_, rfl, Ld1 h (ifne (fun hh => absurd rfl hh) fun _ => h')⟩)⟩
 clear h'
 intro _ w h'
 have h := h'
 unfold WX MSU MSL hp MSR UIL DL at h
 refine ⟨_, rfl, Ld1 h ?_⟩
 refine ⟨fun m (z : Bool × Int) w => ∃ j : Nat, z = (true, (j : Int)) /\ j <= sets.length /\ m = sets.length - j /\ (∀ i, i < j -> svs[i]? = svs2[i]?) /\ Sat w (WX c ⟨s0, s1, s0, s1, ⟨keys.a, sets.length, keys.c⟩, 1, dir, keys, sets.length, sets.flatMap kcells, buf, bb, rev, N, f, pos⟩ v u bi isp di ⟨isp', ipos, cs, ce, ck, 1, A, ck, kb, D2, ks, kbb⟩ R),
  ⟨_, 0, rfl, Nat.zero_le _, rfl, fun i hi => by omega, h'⟩, ?_⟩
 clear h h'
 rintro m z w ⟨j, rfl, hj, hm, heq, h'⟩
 dsimp only
 refine ifd (fun hlt => ?_) (fun hge => ?_)
 ·replace hlt : (j : Int) < sets.length := hlt
  have hjl : j < sets.length := by omega
  have hjs : j < svs.length := by omega
  have hjk : j < ks.length := by omega
  have hjs2 : j < svs2.length := by omega
  have ew : IntKind.i64.wrap ((j : Int) + 1) = ((j + 1 : Nat) : Int) := w1 om
  rw [ew, Int.toNat_natCast]
  refine ⟨fun _ w => Sat w (WX c ⟨s0, s1, s0, s1, ⟨keys.a, sets.length, keys.c⟩, 1, dir, keys, sets.length, sets.flatMap kcells, buf, bb, rev, N, f, pos⟩ v u bi isp di ⟨isp', ipos, cs, ce, ck, 1, A, ck, kb, D2, ks, kbb⟩ R), ?_, h'⟩
  clear h'
  intro _ w h'
  have h := h'
  unfold WX MSU MSL hp MSR UIL DL at h
  obtain ⟨e, he, hr⟩ := bufRow (ks := sets) (b := ⟨keys.a, sets.length, keys.c⟩) h' .k7 hjl
  obtain ⟨e2, he2, hr2⟩ := bufRow (ks := ks) (b := ck) h' .k19 hjk
  dsimp only at he
  have hrd := Near.rdL (w1 := w.drew) hr
  have hrd2 := Near.rdL (w1 := w.drew) hr2
  obtain ⟨g1, g2⟩ := hsv.get j hjl hjs
  obtain ⟨g3, g4⟩ := d6.get j hjk hjs2
  have rd1 : ∀ {w'} {x : Sl} {t : ByteArray}, Near w w' -> BytesAt c.D x t -> RdB w' x.a x.n t := fun {w'} {x} {t} nr hb => by
   have := nr
   exact (h'.near (w' := w')).rdB .k3 hb
  have rd2 : ∀ {w'} {x : Sl} {t : ByteArray}, Near w w' -> BytesAt D2 x t -> RdB w' x.a x.n t := fun {w'} {x} {t} nr hb => by
   have := nr
   exact (h'.near (w' := w')).rdB .k17 hb
  refine ⟨_, rfl, Ld1 h ?_⟩
  refine ⟨⟨by omega, hlt⟩, e, he, LdC (hrd 1 _ rfl) ⟨_, rfl, Ld1 h ?_⟩⟩
  refine ⟨⟨by omega, show (j : Int) < ck.n by omega⟩, e2, he2, LdC (hrd2 1 _ rfl) ?_⟩
  refine callEq (a := sets[j].2.1) (b := ks[j].2.1) (rd1 inferInstance g1) (rd2 inferInstance g3) ?_
  by_cases es : (svs[j]).1 = (svs2[j]).1
  ·rw [if_neg (by simp [es])]
   refine ⟨_, rfl, Ld1 h ?_⟩
   refine ⟨⟨by omega, hlt⟩, e, he, LdC (hrd 2 _ rfl) ⟨_, rfl, Ld1 h ?_⟩⟩
   refine ⟨⟨by omega, show (j : Int) < ck.n by omega⟩, e2, he2, LdC (hrd2 2 _ rfl) ?_⟩
   refine call46 (a1 := sets[j].2.2) (b2 := ks[j].2.2) ⟨_, rd1 inferInstance g2, _, rd2 inferInstance g4, ?_⟩
   rw [toList_beq]
   refine ifn (fun ev => ?_) (fun ev => ?_)
   rotate_left
   ·replace ev := of_decide_eq_true ev
    refine ⟨sets.length - (j + 1), by omega, j + 1, rfl, hjl, rfl, fun i hi => ?_, h'.near⟩
    by_cases e3 : i = j
    ·subst e3
     rw [List.getElem?_eq_getElem hjs, List.getElem?_eq_getElem hjs2]
     exact congrArg some (Prod.ext es ev)
    ·exact heq i om
   ·replace ev := of_decide_eq_false ev
    refine k false _ ?_ h'.near
    simp only [Bool.false_eq_true, false_iff]
    rintro ⟨rfl, _⟩
    exact ev rfl
  ·rw [if_pos (by simp [es])]
   refine k false _ ?_ h'.near
   simp only [Bool.false_eq_true, false_iff]
   rintro ⟨rfl, _⟩
   exact es rfl
 ·replace hge : ¬ (j : Int) < sets.length := hge
  have : j = sets.length := by omega
  subst this
  refine k true _ ⟨fun _ => ⟨List.ext_getElem? fun i => ?_, hnz⟩, fun _ => rfl⟩ h'
  by_cases hi : i < sets.length
  ·exact heq i hi
  ·rw [List.getElem?_eq_none om, List.getElem?_eq_none om]
theorem spec134s {c : MC} {s : MSt} {R} {a b : ByteArray} {sn : Int} {sets : List KC} {w} {K : Bool -> WP} (fr : Frag c sn s a b sets) (h : Sat w (MSL c s R)) (k : K (decide (sets.length = 0)) w) : F134 (some (c.m.add 4)) K w := by
 unfold F134
 unfold MSL hp MSR at h
 refine ifSomeF ⟨_, rfl, Ld1 h ?_⟩
 have e : ((s.s2.n : Int) == 0) = decide (sets.length = 0) := by
  rw [fr.s2]
  by_cases e : sets.length = 0
  ·simp [e]
  ·simp [e]
 rw [e]; exact k
theorem spec265 {c : MC} {s : MSt} {v : UC} {u : UV} {bi di : Addr} {isp : Option Addr} {d : DSt} {R} {a b x y : ByteArray} {sets : List KC} {svs svs2 : List (ByteArray × ByteArray)} {w} {K : Bool -> WP}
  (fr : Frag c v.sn s a b sets) (hsv : SVs c.D sets svs) (hd : DOk d x y svs2) (hisp : d.isp = some (c.m.add 4)) (hlen : sets.length < 2^32) (h : Sat w (WX c s v u bi isp di d R))
  (k : ∀ r w', (r = true ↔ svs = svs2 /\ svs ≠ []) -> Sat w' (WX c s v u bi isp di d R) -> K r w') : F265 (some di) (some (c.m.add 4)) (some (di.add 6)) K w := by
 unfold F265
 have hl1 := hsv.len
 have hl2 := hd.sv.len
 have nz : svs ≠ [] ↔ sets.length ≠ 0 := by rw [hl1]; cases svs <;> simp
 refine call134 (spec134s fr (h.near (w' := w.drew)) ?_)
 by_cases e : sets.length = 0
 ·rw [if_neg (by simp [e])]
  exact k false _ (by simp only [Bool.false_eq_true, false_iff]; rintro ⟨_, h2⟩; exact nz.1 h2 e) h.near
 rw [if_pos (by simp [e])]
 have h' := h
 unfold WX MSU MSL hp MSR UIL DL at h
 refine call134 ?_
 unfold F134
 refine ifSomeF ⟨_, rfl, Ld1 h ?_⟩
 refine ifn (fun e2 => ?_) (fun e2 => ?_)
 rotate_left
 ·replace e2 : ((d.ck.n : Int) == 0) = true := e2
  have e2 : d.ck.n = 0 := by simpa using e2
  refine k false _ ?_ h'.near
  simp only [Bool.false_eq_true, false_iff]
  rintro ⟨rfl, h2⟩
  have := hd.kn
  rw [<- hd.ck] at this
  omega
 refine ⟨_, rfl, Ld1 h ?_⟩
 refine ⟨_, rfl, Ld1 h ?_⟩
 refine ⟨_, rfl, Ld1 h ?_⟩
 refine ⟨_, rfl, trivial, ?_⟩
 rw [hisp]
 refine CallI_run m214Should (call197 (equal2 := .mk (.func 46) #[] #[]) (spec197 fr hsv hd hlen h'.near fun r w hr h => k r w ?_ h))
 rw [hr, nz]
theorem keysAt_len {c : MC} (kg : KeysGood c) (y : ByteArray) : (keysAt c y).length <= c.k * 1048576 := by
 have : ∀ n, n <= c.k -> ((List.range n).flatMap fun l => match covs (c.S l).spans y with | some s => s.keys | none => []).length <= n * 1048576 := by
  intro n
  induction n with
  | zero => intro _; simp
  | succ n ih =>
   intro hn
   rw [List.range_succ, List.flatMap_append, List.length_append]
   refine lstep (ih om) ?_
   simp only [List.flatMap_cons, List.flatMap_nil, List.append_nil]
   cases e : covs (c.S n).spans y with
   | none => simp
   | some sp =>
    obtain ⟨j, hj, _⟩ := covs_some e
    exact (kg n om sp (List.mem_of_getElem? hj)).1
 exact this c.k (Nat.le_refl _)
theorem Frag.len {c : MC} {v : UC} (cx : CtxOK c v) {s : MSt} {a b : ByteArray} {sets : List KC} (fr : Frag c v.sn s a b sets) : sets.length < 2^32 := by
 obtain ⟨acc, out, l, hrel, hout, hl, rfl⟩ := fr.vis
 have h1 := List.length_filter_le isSet (ded (sbD c.D) none l)
 have h2 := ded_len (sbD c.D) l none
 have h3 := hl.mem.1
 have h4 := (collect_sub v.sn out).2
 have h5 := hout.mem.1
 have h6 := hrel.len
 have h7 := keysAt_len cx.kg a
 have h8 := cx.ok.k10
 omega
theorem ahead_le {c : MC} {p q : Nat -> Int} : ∀ {n : Nat}, (∀ l, l < n -> p l <= q l) -> ahead c q n <= ahead c p n
 | 0, _ => Nat.le_refl _
 | n + 1, h => by
  have h1 := ahead_le (c := c) (p := p) (q := q) (n := n) fun l hl => h l om
  have h2 := h n om
  simp only [ahead]
  omega
theorem ahead_lt {c : MC} {p q : Nat -> Int} {i : Nat} : ∀ {n : Nat}, (∀ l, l < n -> p l <= q l) -> i < n -> p i < q i -> p i < 2 * (c.S i).n -> ahead c q n < ahead c p n
 | 0, _, h, _, _ => by omega
 | n + 1, h, hi, h1, h2 => by
  simp only [ahead]
  have g2 := h n om
  by_cases e : i = n
  ·subst e
   have := ahead_le (c := c) (p := p) (q := q) (n := i) fun l hl => h l om
   omega
  ·have := ahead_lt (c := c) (p := p) (q := q) (n := n) (fun l hl => h l om) om h1 h2
   omega
theorem Cut.ahead {c : MC} {p q : Nat -> Int} {a b a' b' : ByteArray} (h : Cut c p a b) (h' : Cut c q a' b') (hab : bcmp a b < 0) (hb : IsB c b) (hba : bcmp b a' <= 0) (hab' : bcmp a' b' < 0) : ahead c q c.k < Go.Proofs.YtpkoddfamelnhaaGreatDoor.ahead c p c.k := by
 have hle : ∀ l, l < c.k -> p l <= q l := fun l hl => by
  obtain ⟨g0, g1, g2, g3⟩ := h l hl
  obtain ⟨f0, f1, f2, f3⟩ := h' l hl
  refine Int.not_lt.1 fun hlt => ?_
  have k1 := g2 (q l).toNat om
  have k2 := f3 (q l).toNat om om
  have k3 := bcmp_trans k2 k1
  have k4 := bcmp_lt_le hab hba
  exact absurd (bcmp_le_lt k3 (bcmp_lt_le k4 (lt_le_b hab'))) (by rw [bcmp_refl]; omega)
 obtain ⟨l, hl, i, hi, rfl⟩ := hb
 obtain ⟨g0, g1, g2, g3⟩ := h l hl
 obtain ⟨f0, f1, f2, f3⟩ := h' l hl
 have h1 : p l <= i := by
  refine Int.not_lt.1 fun hlt => ?_
  exact absurd (g2 i hlt) (not_le_b.2 hab)
 have h2 : (i : Int) < q l := by
  refine Int.not_le.1 fun hge => ?_
  have := f3 i hge hi
  exact absurd (bcmp_lt_le hab' this) (not_lt_b.2 hba)
 exact ahead_lt hle hl om om
theorem m222SeekGE : MethAt Tryz.prog 222 "SeekGE" 260 := by intro v w; kernel_rfl
def FoundF (c : MC) (v : UC) (s : MSt) (e : ByteArray) (isp : Option Addr) (m : Nat) : Prop :=
 (isp = none /\ s.N = 0 /\ ∀ y, bcmp e y <= 0 -> ¬ covd c y) \/
 ∃ a b sets svs, isp = some (c.m.add 4) /\ Fwd c s /\ Cut c s.pos a b /\ Frag c v.sn s a b sets /\ SVs c.D sets svs /\ IsC v.sn (keysAt c a) svs /\ bcmp e a <= 0 /\ (∀ y, bcmp e y <= 0 -> bcmp y a < 0 -> ¬ covd c y) /\ m = ahead c s.pos c.k + 1
theorem nextF {c : MC} {s : MSt} {v : UC} {u : UV} {bi di : Addr} {isp : Option Addr} {d : DSt} {R} {e : ByteArray} {mm : Nat} {w} {Z : Option Addr -> WP} (cx : CtxOK c v) (hn : NextAt c s e) (hm : ∀ q a' b', Cut c q a' b' -> bcmp e a' <= 0 -> bcmp a' b' < 0 -> ahead c q c.k < mm)
  (h : Sat w (WX c s v u bi isp di d R)) (k : ∀ s' u' isp' m w', m <= mm -> FoundF c v s' e isp' m -> Sat w' (WX c s' v u' bi isp' di d R) -> Z isp' w') : CallI Tryz.prog (.iface 219 (.pointer (some bi))) "Next" [] [(.one .ptr)] Z w := by
 refine CallI_run m219Next (call245 (spec245 cx hn h ?_ ?_))
 ·intro s' u' w hN hnc h
  exact k s' u' none 0 w (Nat.zero_le _) (.inl ⟨rfl, hN, hnc⟩) h
 ·intro s' a b sets u' w f1 f2 f3 f4 f5 h
  obtain ⟨svs, g1, g2⟩ := f3.vis.sv (cx.nd a)
  exact k s' u' _ (ahead c s'.pos c.k + 1) w (hm _ _ _ f2 f4 f3.lt) (.inr ⟨a, b, sets, svs, rfl, f1, f2, f3, g1, g2, f4, f5, rfl⟩) h
theorem dRd {c : MC} {s : MSt} {v : UC} {u : UV} {bi di : Addr} {isp : Option Addr} {d : DSt} {R} {x : Sl} {t : ByteArray} {w} (h : Sat w (WX c s v u bi isp di d R)) (hx : BytesAt d.D2 x t \/ (x = d.kb /\ t = d.kbb)) : RdB w x.a x.n t := by
 rcases hx with hx | ⟨rfl, rfl⟩
 ·exact h.rdB .k17 hx
 ·exact rdBuf1 (h.mv 20)
def LoopF (c : MC) (v : UC) (bi di : Addr) (R : List Chunk) (a b : ByteArray) (svs : List (ByteArray × ByteArray)) (m : Nat) (w : World) : Prop :=
 ∃ s u d e, DOk d a e svs /\ BytesAt d.D2 d.cs a /\ bcmp b e <= 0 /\ bcmp a e < 0 /\ FoundF c v s e d.isp m /\ Sat w (WX c s v u bi d.isp di d R)
def DoneF (c : MC) (v : UC) (bi di : Addr) (R : List Chunk) (a b : ByteArray) (svs : List (ByteArray × ByteArray)) (w : World) : Prop :=
 ∃ s u d e, DOk d a e svs /\ bcmp b e <= 0 /\ (∀ z, bcmp a z <= 0 -> (∀ y, bcmp a y <= 0 -> bcmp y z <= 0 -> covd c y /\ IsC v.sn (keysAt c y) svs) -> bcmp z e < 0) /\ ErrOK c s /\ Sat w (WX c s v u bi d.isp di d R)
theorem spec263 {c : MC} {s : MSt} {v : UC} {u : UV} {bi di : Addr} {isp : Option Addr} {d : DSt} {R} {a b : ByteArray} {sets : List KC} {svs : List (ByteArray × ByteArray)} {w} {K : Option Addr -> WP} (cx : CtxOK c v) (hA : d.A.c <= 2^41) (hisp : d.isp = some (c.m.add 4))
  (hf : Fwd c s) (hc : Cut c s.pos a b) (fr : Frag c v.sn s a b sets) (hsv : SVs c.D sets svs) (hic : IsC v.sn (keysAt c a) svs) (hne : svs ≠ []) (h : Sat w (WX c s v u bi isp di d R))
  (k : ∀ s' u' isp' d' e w', DOk d' a e svs -> bcmp b e <= 0 -> (∀ z, bcmp a z <= 0 -> (∀ y, bcmp a y <= 0 -> bcmp y z <= 0 -> covd c y /\ IsC v.sn (keysAt c y) svs) -> bcmp z e < 0) -> Sat w' (WX c s' v u' bi isp' di d' R) -> K (some (di.add 6)) w') : F263 (some di) K w := by
 have hsl := fr.len cx
 have hl1 := hsv.len
 have hnz : sets.length ≠ 0 := by rw [hl1]; cases svs <;> simp_all
 unfold F263
 have h' := h
 unfold WX MSU MSL hp MSR UIL DL at h
 refine ⟨_, rfl, Ld1 h ?_⟩
 rw [hisp]
 refine call134 (spec134s fr h' ?_)
 rw [if_neg (by simp [hnz])]
 refine call262 (spec262 cx hA hisp fr hsv hic hsl h' fun d w hd hcs hce hdi hdp h' => ?_)
 clear h
 have h := h'
 unfold WX MSU MSL hp MSR UIL DL at h
 refine ⟨_, rfl, St1 h rfl fun w h => ?_⟩
 have h' : Sat w (WX c s v u bi isp di { d with ipos := 1 } R) := h
 refine ⟨_, rfl, Ld1 h ?_⟩
 have hna : NextAt c s b := .inl ⟨hf, fr.st.1, fr.en.1, hc.mono (lt_le_b fr.lt) (le_refl_b b), hc.gap fr.lt fr.bb⟩
 refine nextF (mm := ahead c s.pos c.k) cx hna (fun q a' b' g1 g2 g3 => hc.ahead g1 fr.lt fr.bb g2 g3) h' fun s1 u1 isp1 m1 w hm1 hfo h' => ?_
 clear h
 have h := h'
 unfold WX MSU MSL hp MSR UIL DL at h
 refine ⟨_, rfl, St1 h rfl fun w h => ?_⟩
 have hL : LoopF c v bi di R a b svs m1 w := ⟨s1, u1, { d with ipos := 1, isp := isp1 }, b, ⟨hd.A, hd.cs, hd.ce, hd.ck, hd.kn, hd.sv, hd.ord⟩, hcs, le_refl_b b, fr.lt, hfo, h⟩
 clear h h' hd hcs hce hdi hdp hfo hm1 hna
 refine ⟨fun _ w => DoneF c v bi di R a b svs w, ?_, ?_⟩
 ·rintro _ w ⟨s, u, d, e, hd, hbe, hz, he, h'⟩
  have h := h'
  unfold WX MSU MSL hp MSR UIL DL at h
  refine ⟨_, rfl, Ld1 h ?_⟩
  refine CallI_run m219Error (call242 (spec242 he h' fun w h' => ?_))
  clear h
  have h : Sat w (WX c s v u bi d.isp di d R) := h'
  unfold WX MSU MSL hp MSR UIL DL at h
  refine ⟨IsI_enc _, ?_⟩
  rw [isNilI_enc]
  refine ifn (fun hh => by cases hh) (fun _ => ?_)
  refine ⟨_, rfl, Ld1 h ⟨_, rfl, Ld1 h ⟨_, rfl, St1 h rfl fun w h => ⟨_, rfl, ?_⟩⟩⟩⟩
  exact k s u d.isp { d with ck := d.KB } e w ⟨hd.A, hd.cs, hd.ce, rfl, hd.kn, hd.sv, hd.ord⟩ hbe hz h
 refine ⟨fun m _ w => LoopF c v bi di R a b svs m w, ⟨_, hL⟩, ?_⟩
 clear hL
 rintro m _ w ⟨s, u, d, e, hd, hcs, hbe, hae, hfo, h'⟩
 have h := h'
 unfold WX MSU MSL hp MSR UIL DL at h
 refine ⟨_, rfl, Ld1 h ?_⟩
 rcases hfo with ⟨hn, hN, hnc⟩ | ⟨a', b', sets', svs', hi, hf', hc', fr', hsv', hic', hea, hnc, rfl⟩
 ·rw [hn]
  refine ifNNone ⟨s, u, d, e, hd, hbe, fun z hz hch => ?_, fun h0 => by omega, h'⟩
  refine not_le_b.1 fun hez => ?_
  exact hnc e (le_refl_b e) (hch e (lt_le_b hae) hez).1
 have hsl' := fr'.len cx
 rw [hi]
 refine ifNSome ⟨_, rfl, Ld1 h ⟨_, rfl, Ld1 h ⟨_, rfl, Ld1 h ?_⟩⟩⟩
 rw [hi]
 refine ⟨_, rfl, Ld1 h ?_⟩
 rw [fr'.s0]
 refine callEq (a := d.ce) (b := s.start) (dRd h'.near hd.ce) (SAt.rd (show Sat _ (MSL c s _) from h'.near) fr'.st.2) ?_
 refine ifn (fun hne2 => ?_) (fun heq => ?_)
 ·replace hne2 := of_decide_eq_false hne2
  refine ⟨s, u, d, e, hd, hbe, fun z hz hch => ?_, hf'.err cx.ok, h'.near⟩
  refine not_le_b.1 fun hez => ?_
  refine hnc e (le_refl_b e) ?_ (hch e (lt_le_b hae) hez).1
  have : bcmp e a' ≠ 0 := fun h0 => hne2 (bcmp_zero h0)
  omega
 replace heq := of_decide_eq_true heq
 subst heq
 refine ⟨_, rfl, Ld1 h ?_⟩
 rw [hi]
 refine ⟨_, rfl, ?_⟩
 refine call265 (spec265 fr' hsv' hd hi hsl' h'.near fun r w hr h' => ?_)
 refine ifn (fun hrf => ?_) (fun hrt => ?_)
 ·refine ⟨s, u, d, e, hd, hbe, fun z hz hch => ?_, hf'.err cx.ok, h'.near⟩
  refine not_le_b.1 fun hez => ?_
  have g := hic'.unique (hch e (lt_le_b hae) hez).2
  subst g
  rw [hr.2 ⟨rfl, hne⟩] at hrf
  cases hrf
 obtain ⟨g, _⟩ := hr.1 hrt
 subst g
 clear h
 have h := h'
 unfold WX MSU MSL hp MSR UIL DL at h
 have hbz := fr'.bb.small cx.lo
 refine ⟨_, rfl, Ld1 h ⟨_, rfl, Ld1 h ⟨_, rfl, Ld1 h ⟨⟨by omega, by dsimp only; omega⟩, _, rfl, Ld1 h ?_⟩⟩⟩⟩
 rw [hi]
 refine ⟨_, rfl, Ld1 h ?_⟩
 rw [fr'.s1]
 have hrd := SAt.rd (w := w.drew.drew.drew) (show Sat _ (MSL c s _) from h'.near) fr'.en.2
 have hn : b'.size = s.end_.n := by
  have h1 := fr'.en.1
  generalize s.end_ = x at *
  obtain ⟨xa, xn, xc⟩ := x
  cases xa with
  | none => cases h1
  | some xa => exact hrd.1
 have h2 := bufTrunc (h.mv 20)
 refine AppP_run (s := si87) (old := []) (d := ⟨d.kb.a, 0, d.kb.c⟩) (x := ⟨s.end_.a, s.end_.n, s.end_.c⟩) (new := bytesOf b') h2 (RdB.rdS (SAt.rd (show Sat _ (MSL c s _) from h'.near) fr'.en.2)) (by rw [bytesOf_length, hn]; exact (Nat.mul_one _).symm) (bytes_one b') (by show (2 * (0 + s.end_.n) + 1024) * 1 <= _; omega) (by dsimp only; omega) fun kb' w er ea h => ?_
 refine ⟨LdAt1 h, _, rfl, St1 h rfl fun w h => ⟨_, rfl, Ld1 h ⟨_, rfl, Ld1 h ⟨_, rfl, St1 h rfl fun w h => ?_⟩⟩⟩⟩
 refine ⟨_, rfl, Ld1 h ⟨_, rfl, Ld1 h ⟨_, rfl, Ld1 h ⟨_, rfl, Ld1 h ⟨_, rfl, Ld1 h ?_⟩⟩⟩⟩⟩
 rw [hi]
 refine ⟨_, rfl, Ld1 h ?_⟩
 refine CallV_run (call63 (cur1 := d.KB) (x2 := s.s2) ?_)
 unfold F63
 refine ⟨LdAt1 h, _, rfl, St1 h rfl fun w h => ?_⟩
 have h' : Sat w (WX c s v u bi (some (c.m.add 4)) di { d with isp := some (c.m.add 4), kb := kb', kbb := b', ce := kb' } R) := by
  have := h.pt 20
  rw [hi] at this
  exact this
 refine ⟨_, rfl, Ld1 h ?_⟩
 have hna : NextAt c s b' := .inl ⟨hf', fr'.st.1, fr'.en.1, hc'.mono (lt_le_b fr'.lt) (le_refl_b b'), hc'.gap fr'.lt fr'.bb⟩
 refine nextF (mm := ahead c s.pos c.k) cx hna (fun q a' b' g1 g2 g3 => hc'.ahead g1 fr'.lt fr'.bb g2 g3) h'.near fun s1 u1 isp1 m1 w hm1 hfo h' => ?_
 clear h
 have h := h'
 unfold WX MSU MSL hp MSR UIL DL at h
 refine ⟨_, rfl, St1 h rfl fun w h => ?_⟩
 exact ⟨m1, by omega, s1, u1, { d with isp := isp1, kb := kb', kbb := b', ce := kb' }, b', ⟨hd.A, .inl hcs, .inr ⟨rfl, rfl⟩, hd.ck, hd.kn, hd.sv, hd.ord⟩, hcs, bcmp_trans hbe (lt_le_b fr'.lt), bcmp_lt_le hae (lt_le_b fr'.lt), hfo, h⟩
theorem behind_le {p q : Nat -> Int} : ∀ {n : Nat}, (∀ l, l < n -> q l <= p l) -> behind q n <= behind p n
 | 0, _ => Nat.le_refl _
 | n + 1, h => by
  have h1 := behind_le (p := p) (q := q) (n := n) fun l hl => h l om
  have h2 := h n om
  simp only [behind]
  omega
theorem behind_lt {p q : Nat -> Int} {i : Nat} : ∀ {n : Nat}, (∀ l, l < n -> q l <= p l) -> i < n -> q i < p i -> 0 <= p i -> behind q n < behind p n
 | 0, _, h, _, _ => by omega
 | n + 1, h, hi, h1, h2 => by
  simp only [behind]
  have g2 := h n om
  by_cases e : i = n
  ·subst e
   have := behind_le (p := p) (q := q) (n := i) fun l hl => h l om
   omega
  ·have := behind_lt (p := p) (q := q) (n := n) (fun l hl => h l om) om h1 h2
   omega
theorem Cut.behind {c : MC} {p q : Nat -> Int} {a b a' b' : ByteArray} (h : Cut c (fun l => p l + 1) a b) (h' : Cut c (fun l => q l + 1) a' b') (hab : bcmp a b < 0) (ha : IsB c a) (hba : bcmp b' a <= 0) (hab' : bcmp a' b' < 0) : Go.Proofs.YtpkoddfamelnhaaGreatDoor.behind q c.k < Go.Proofs.YtpkoddfamelnhaaGreatDoor.behind p c.k := by
 have H : ∀ l, l < c.k -> 0 <= p l + 1 /\ p l + 1 <= 2 * ((c.S l).n : Int) /\ (∀ i : Nat, (i : Int) < p l + 1 -> bcmp (bkey (c.S l).spans i) a <= 0) /\ ∀ i : Nat, p l + 1 <= i -> i < 2 * (c.S l).n -> bcmp b (bkey (c.S l).spans i) <= 0 := fun l hl => h l hl
 have H' : ∀ l, l < c.k -> 0 <= q l + 1 /\ q l + 1 <= 2 * ((c.S l).n : Int) /\ (∀ i : Nat, (i : Int) < q l + 1 -> bcmp (bkey (c.S l).spans i) a' <= 0) /\ ∀ i : Nat, q l + 1 <= i -> i < 2 * (c.S l).n -> bcmp b' (bkey (c.S l).spans i) <= 0 := fun l hl => h' l hl
 have hle : ∀ l, l < c.k -> q l <= p l := fun l hl => by
  obtain ⟨g0, g1, g2, g3⟩ := H l hl
  obtain ⟨f0, f1, f2, f3⟩ := H' l hl
  refine Int.not_lt.1 fun hlt => ?_
  have k1 := f2 (p l + 1).toNat om
  have k2 := g3 (p l + 1).toNat om om
  have k3 := bcmp_trans k2 k1
  have k4 := bcmp_lt_le hab' hba
  exact absurd (bcmp_lt_le (bcmp_le_lt k3 k4) (lt_le_b hab)) (by rw [bcmp_refl]; omega)
 obtain ⟨l, hl, i, hi, rfl⟩ := ha
 obtain ⟨g0, g1, g2, g3⟩ := H l hl
 obtain ⟨f0, f1, f2, f3⟩ := H' l hl
 have h1 : (i : Int) < p l + 1 := by
  refine Int.not_le.1 fun hge => ?_
  exact absurd (g3 i hge hi) (not_le_b.2 hab)
 have h2 : q l + 1 <= i := by
  refine Int.not_lt.1 fun hlt => ?_
  exact absurd (bcmp_le_lt (f2 i hlt) hab') (not_lt_b.2 hba)
 exact behind_lt hle hl om om
def FoundB (c : MC) (v : UC) (s : MSt) (e : ByteArray) (isp : Option Addr) (m : Nat) : Prop :=
 (isp = none /\ s.N = 0 /\ s.dir = -1 /\ KN s /\ (∀ l, l < c.k -> s.pos l = -1) /\ ∀ y, bcmp y e < 0 -> ¬ covd c y) \/
 ∃ a b sets svs, isp = some (c.m.add 4) /\ Bwd c s /\ Cut c (fun l => s.pos l + 1) a b /\ Frag c v.sn s a b sets /\ SVs c.D sets svs /\ IsC v.sn (keysAt c a) svs /\ bcmp b e <= 0 /\ (∀ y, bcmp b y <= 0 -> bcmp y e < 0 -> ¬ covd c y) /\ m = behind s.pos c.k + 1
theorem prevB {c : MC} {s : MSt} {v : UC} {u : UV} {bi di : Addr} {isp : Option Addr} {d : DSt} {R} {e : ByteArray} {mm : Nat} {w} {Z : Option Addr -> WP} (cx : CtxOK c v) (hn : PrevAt c s e) (hm : ∀ q a' b', Cut c (fun l => q l + 1) a' b' -> bcmp b' e <= 0 -> bcmp a' b' < 0 -> behind q c.k < mm)
  (h : Sat w (WX c s v u bi isp di d R)) (k : ∀ s' u' isp' m w', m <= mm -> FoundB c v s' e isp' m -> Sat w' (WX c s' v u' bi isp' di d R) -> Z isp' w') : CallI Tryz.prog (.iface 219 (.pointer (some bi))) "Prev" [] [(.one .ptr)] Z w := by
 refine CallI_run m219Prev (call246 (spec246 cx hn h ?_ ?_))
 ·intro s' u' w hN hd hk hp hnc h
  exact k s' u' none 0 w (Nat.zero_le _) (.inl ⟨rfl, hN, hd, hk, hp, hnc⟩) h
 ·intro s' a b sets u' w f1 f2 f3 f4 f5 h
  obtain ⟨svs, g1, g2⟩ := f3.vis.sv (cx.nd a)
  exact k s' u' _ (behind s'.pos c.k + 1) w (hm _ _ _ f2 f4 f3.lt) (.inr ⟨a, b, sets, svs, rfl, f1, f2, f3, g1, g2, f4, f5, rfl⟩) h
def Alike (c : MC) (v : UC) (e b : ByteArray) (svs : List (ByteArray × ByteArray)) : Prop := ∀ y, bcmp e y <= 0 -> bcmp y b < 0 -> covd c y /\ IsC v.sn (keysAt c y) svs
def LoopB (c : MC) (v : UC) (bi di : Addr) (R : List Chunk) (a b : ByteArray) (svs : List (ByteArray × ByteArray)) (m : Nat) (w : World) : Prop :=
 ∃ s u d e, DOk d e b svs /\ BytesAt d.D2 d.ce b /\ bcmp e a <= 0 /\ bcmp e b < 0 /\ Alike c v e b svs /\ d.ipos = -1 /\ FoundB c v s e d.isp m /\ Sat w (WX c s v u bi d.isp di d R)
def DoneB (c : MC) (v : UC) (bi di : Addr) (R : List Chunk) (a b : ByteArray) (svs : List (ByteArray × ByteArray)) (w : World) : Prop :=
 ∃ s u d e x, d.A.c <= 2^41 /\ d.ipos = -1 /\ bcmp e a <= 0 /\ Alike c v e b svs /\ ErrOK c s /\ NextAt c s x /\ bcmp x e <= 0 /\ (∀ y, bcmp x y <= 0 -> bcmp y e < 0 -> ¬ covd c y) /\ Sat w (WX c s v u bi d.isp di d R)
theorem empty_le (s : ByteArray) : bcmp .empty s <= 0 := by
 rw [bcmp_eq]
 cases h : s.data.toList with
 | nil => exact Int.le_refl 0
 | cons a l => show (-1 : Int) <= 0; omega
theorem spec264 {c : MC} {s : MSt} {v : UC} {u : UV} {bi di : Addr} {isp : Option Addr} {d : DSt} {R} {a b : ByteArray} {sets : List KC} {svs : List (ByteArray × ByteArray)} {w} {K : Option Addr -> WP} (cx : CtxOK c v) (hA : d.A.c <= 2^41) (hisp : d.isp = some (c.m.add 4))
  (hf : Fwd c s) (hc : Cut c s.pos a b) (fr : Frag c v.sn s a b sets) (hsv : SVs c.D sets svs) (hic : IsC v.sn (keysAt c a) svs) (hne : svs ≠ []) (h : Sat w (WX c s v u bi isp di d R))
  (k : ∀ r w', DoneB c v bi di R a b svs w' -> K r w') : F264 (some di) K w := by
 have hsl := fr.len cx
 have hl1 := hsv.len
 have lo := cx.lo
 have hnz : sets.length ≠ 0 := by rw [hl1]; cases svs <;> simp_all
 unfold F264
 have h' := h
 unfold WX MSU MSL hp MSR UIL DL at h
 refine ⟨_, rfl, Ld1 h ?_⟩
 rw [hisp]
 refine call134 (spec134s fr h' ?_)
 rw [if_neg (by simp [hnz])]
 refine call262 (spec262 cx hA hisp fr hsv hic hsl h' fun d w hd hcs hce hdi hdp h' => ?_)
 clear h
 have h := h'
 unfold WX MSU MSL hp MSR UIL DL at h
 refine ⟨_, rfl, St1 h rfl fun w h => ?_⟩
 have h' : Sat w (WX c s v u bi isp di { d with ipos := -1 } R) := h
 refine ⟨_, rfl, Ld1 h ?_⟩
 have hpa : PrevAt c s a := .inr ⟨hf.dir, hf.kn, hc.mono (le_refl_b a) (lt_le_b fr.lt), hc.gapB fr.lt fr.ba⟩
 have hcp : Cut c (fun l => (s.pos l - 1) + 1) a b := by
  have : (fun l => (s.pos l - 1) + 1) = s.pos := funext fun l => by omega
  rw [this]; exact hc
 refine prevB (mm := behind (fun l => s.pos l - 1) c.k) cx hpa (fun q a' b' g1 g2 g3 => Cut.behind (p := fun l => s.pos l - 1) hcp g1 fr.lt fr.ba g2 g3) h' fun s1 u1 isp1 m1 w hm1 hfo h' => ?_
 clear h
 have h := h'
 unfold WX MSU MSL hp MSR UIL DL at h
 refine ⟨_, rfl, St1 h rfl fun w h => ?_⟩
 have hal : Alike c v a b svs := fun y hy1 hy2 => by
  obtain ⟨g1, g2⟩ := fr.cv y hy1 hy2
  exact ⟨g1, by rw [g2]; exact hic⟩
 have hL : LoopB c v bi di R a b svs m1 w := ⟨s1, u1, { d with ipos := -1, isp := isp1 }, a, ⟨hd.A, hd.cs, hd.ce, hd.ck, hd.kn, hd.sv, hd.ord⟩, hce, le_refl_b a, fr.lt, hal, rfl, hfo, h⟩
 clear h h' hd hcs hce hdi hdp hfo hm1 hpa
 refine ⟨fun _ w => DoneB c v bi di R a b svs w, ?_, ?_⟩
 ·rintro _ w ⟨s, u, d, e, x, hdA, hip, hea, hal, he, hna, hxe, hnc, h'⟩
  have h := h'
  unfold WX MSU MSL hp MSR UIL DL at h
  refine ⟨_, rfl, Ld1 h ?_⟩
  refine CallI_run m219Error (call242 (spec242 he h' fun w h' => ?_))
  clear h
  have h : Sat w (WX c s v u bi d.isp di d R) := h'
  unfold WX MSU MSL hp MSR UIL DL at h
  refine ⟨IsI_enc _, ?_⟩
  rw [isNilI_enc]
  refine ifn (fun hh => by cases hh) (fun _ => ?_)
  refine ⟨_, rfl, Ld1 h ⟨_, rfl, Ld1 h ⟨_, rfl, St1 h rfl fun w h => ⟨_, rfl, ?_⟩⟩⟩⟩
  exact k _ w ⟨s, u, { d with ck := d.KB }, e, x, hdA, hip, hea, hal, he, hna, hxe, hnc, h⟩
 refine ⟨fun m _ w => LoopB c v bi di R a b svs m w, ⟨_, hL⟩, ?_⟩
 clear hL hal
 rintro m _ w ⟨s, u, d, e, hd, hce, hea, heb, hal, hip, hfo, h'⟩
 have h := h'
 unfold WX MSU MSL hp MSR UIL DL at h
 refine ⟨_, rfl, Ld1 h ?_⟩
 rcases hfo with ⟨hn, hN, hdir, hkn, hpos, hnc⟩ | ⟨a', b', sets', svs', hi, hf', hc', fr', hsv', hic', hbe, hnc, rfl⟩
 ·rw [hn]
  refine ifNNone ⟨s, u, d, e, .empty, hd.A, hip, hea, hal, fun h0 => by omega, .inr ⟨hdir, hkn, fun l hl => ?_, fun y _ hb => ?_⟩, empty_le e, fun y _ hy => hnc y hy, h'⟩
  ·have := hpos l hl
   exact ⟨by dsimp only; omega, by dsimp only; omega, fun p hp => by dsimp only at hp; omega, fun p _ _ => empty_le _⟩
  ·rintro ⟨l, hl, hcv⟩
   refine hcv ?_
   have hn := (cx.ok.S l hl).len
   have e0 := hpos l hl
   rw [straddle (lo l hl) (q := 0) (Int.le_refl _) om (fun p hp => by omega) (fun p hp hq => hb l hl p (by dsimp only; omega) om), if_neg om]
 have hsl' := fr'.len cx
 have hex : NextAt c s b' := .inr ⟨hf'.dir, hf'.kn, hc'.mono (lt_le_b fr'.lt) (le_refl_b b'), hc'.gap fr'.lt fr'.bb⟩
 rw [hi]
 refine ifNSome ⟨_, rfl, Ld1 h ⟨_, rfl, Ld1 h ⟨_, rfl, Ld1 h ?_⟩⟩⟩
 rw [hi]
 refine ⟨_, rfl, Ld1 h ?_⟩
 rw [fr'.s1]
 refine callEq (a := d.cs) (b := s.end_) (dRd h'.near hd.cs) (SAt.rd (show Sat _ (MSL c s _) from h'.near) fr'.en.2) ?_
 refine ifn (fun hne2 => ?_) (fun heq => ?_)
 ·exact ⟨s, u, d, e, b', hd.A, hip, hea, hal, hf'.err cx.ok, hex, hbe, hnc, h'.near⟩
 replace heq := of_decide_eq_true heq
 subst heq
 refine ⟨_, rfl, Ld1 h ?_⟩
 rw [hi]
 refine ⟨_, rfl, ?_⟩
 refine call265 (spec265 fr' hsv' hd hi hsl' h'.near fun r w hr h' => ?_)
 refine ifn (fun hrf => ?_) (fun hrt => ?_)
 ·exact ⟨s, u, d, e, e, hd.A, hip, hea, hal, hf'.err cx.ok, hex, hbe, hnc, h'.near⟩
 obtain ⟨g, _⟩ := hr.1 hrt
 subst g
 clear h
 have h := h'
 unfold WX MSU MSL hp MSR UIL DL at h
 have hbz := fr'.ba.small cx.lo
 refine ⟨_, rfl, Ld1 h ⟨_, rfl, Ld1 h ⟨_, rfl, Ld1 h ⟨⟨by omega, by dsimp only; omega⟩, _, rfl, Ld1 h ?_⟩⟩⟩⟩
 rw [hi]
 refine ⟨_, rfl, Ld1 h ?_⟩
 rw [fr'.s0]
 have hrd := SAt.rd (w := w.drew.drew.drew) (show Sat _ (MSL c s _) from h'.near) fr'.st.2
 have hn : a'.size = s.start.n := by
  have h1 := fr'.st.1
  generalize s.start = x at *
  obtain ⟨xa, xn, xc⟩ := x
  cases xa with
  | none => cases h1
  | some xa => exact hrd.1
 have h2 := bufTrunc (h.mv 20)
 refine AppP_run (s := si87) (old := []) (d := ⟨d.kb.a, 0, d.kb.c⟩) (x := ⟨s.start.a, s.start.n, s.start.c⟩) (new := bytesOf a') h2 (RdB.rdS (SAt.rd (show Sat _ (MSL c s _) from h'.near) fr'.st.2)) (by rw [bytesOf_length, hn]; exact (Nat.mul_one _).symm) (bytes_one a') (by show (2 * (0 + s.start.n) + 1024) * 1 <= _; omega) (by dsimp only; omega) fun kb' w er ea h => ?_
 refine ⟨LdAt1 h, _, rfl, St1 h rfl fun w h => ⟨_, rfl, Ld1 h ⟨_, rfl, Ld1 h ⟨_, rfl, St1 h rfl fun w h => ?_⟩⟩⟩⟩
 refine ⟨_, rfl, Ld1 h ⟨_, rfl, Ld1 h ⟨_, rfl, Ld1 h ⟨_, rfl, Ld1 h ⟨_, rfl, Ld1 h ?_⟩⟩⟩⟩⟩
 rw [hi]
 refine ⟨_, rfl, Ld1 h ?_⟩
 refine CallV_run (call63 (cur1 := d.KB) (x2 := s.s2) ?_)
 unfold F63
 refine ⟨LdAt1 h, _, rfl, St1 h rfl fun w h => ?_⟩
 have h' : Sat w (WX c s v u bi (some (c.m.add 4)) di { d with isp := some (c.m.add 4), kb := kb', kbb := a', cs := kb' } R) := by
  have := h.pt 20
  rw [hi] at this
  exact this
 refine ⟨_, rfl, Ld1 h ?_⟩
 have hpa : PrevAt c s a' := .inl ⟨hf', fr'.st.1, fr'.en.1, hc'.mono (le_refl_b a') (lt_le_b fr'.lt), hc'.gapB fr'.lt fr'.ba⟩
 refine prevB (mm := behind s.pos c.k) cx hpa (fun q a' b' g1 g2 g3 => hc'.behind g1 fr'.lt fr'.ba g2 g3) h'.near fun s1 u1 isp1 m1 w hm1 hfo h' => ?_
 clear h
 have h := h'
 unfold WX MSU MSL hp MSR UIL DL at h
 refine ⟨_, rfl, St1 h rfl fun w h => ?_⟩
 refine ⟨m1, by omega, s1, u1, { d with isp := isp1, kb := kb', kbb := a', cs := kb' }, a', ⟨hd.A, .inr ⟨rfl, rfl⟩, .inl hce, hd.ck, hd.kn, hd.sv, hd.ord⟩, hce, bcmp_trans (lt_le_b fr'.lt) hea, bcmp_lt_le fr'.lt (lt_le_b heb), fun y hy1 hy2 => ?_, hip, hfo, h⟩
 by_cases e1 : bcmp e y <= 0
 ·exact hal y e1 hy2
 ·obtain ⟨g1, g2⟩ := fr'.cv y hy1 (not_le_b.1 e1)
  exact ⟨g1, by rw [g2]; exact hic'⟩
def KSRd (w : World) (x : Sl) (kg : Nat -> KC) (ks : List KeyM) : Prop := x.n = ks.length /\ ∀ (j : Nat) (hj : j < ks.length), ∃ e : Addr, x.a = some e /\ RdL w (e.add (j * 3)) (kcells (kg j)) /\ (kg j).1 = (ks[j]).tr /\ RdB w (kg j).2.1.a (kg j).2.1.n (ks[j]).suf /\ RdB w (kg j).2.2.a (kg j).2.2.n (ks[j]).val
def SpanRd (w : World) (p : Addr) (x : Sl × Sl × Sl × Int) (kg : Nat -> KC) (lo hi : ByteArray) (ks : List KeyM) : Prop := RdL w p [.slice x.1.a x.1.n x.1.c, .slice x.2.1.a x.2.1.n x.2.1.c, .slice x.2.2.1.a x.2.2.1.n x.2.2.1.c, .int .i8 x.2.2.2] /\ RdB w x.1.a x.1.n lo /\ RdB w x.2.1.a x.2.1.n hi /\ KSRd w x.2.2.1 kg ks
def svOf (m : KeyM) : ByteArray × ByteArray := (m.suf, m.val)
def zipK : List KC -> List (ByteArray × ByteArray) -> List KeyM
 | k :: ks, p :: ps => ⟨k.1, p.1, p.2⟩ :: zipK ks ps
 | _, _ => []
theorem zipK_sv {D} : ∀ {l : List KC} {s : List (ByteArray × ByteArray)}, SVs D l s -> (zipK l s).map svOf = s
 | [], [], _ => rfl
 | [], _ :: _, h => h.elim
 | _ :: _, [], h => h.elim
 | _ :: _, _ :: _, ⟨_, h⟩ => by simp [zipK, svOf, zipK_sv h]
theorem zipK_get {D} : ∀ {l : List KC} {s : List (ByteArray × ByteArray)}, SVs D l s -> (zipK l s).length = l.length /\ ∀ (j : Nat) (hj : j < (zipK l s).length) (h1 : j < l.length), (l[j]).1 = ((zipK l s)[j]).tr /\ BytesAt D (l[j]).2.1 ((zipK l s)[j]).suf /\ BytesAt D (l[j]).2.2 ((zipK l s)[j]).val
 | [], [], _ => ⟨rfl, fun j hj => by simp [zipK] at hj⟩
 | [], _ :: _, h => h.elim
 | _ :: _, [], h => h.elim
 | k :: l, p :: s, ⟨h1, h2⟩ => by
  obtain ⟨g1, g2⟩ := zipK_get h2
  refine ⟨by simp [zipK, g1], fun j hj hj' => ?_⟩
  cases j with
  | zero => exact ⟨rfl, h1⟩
  | succ j => exact g2 j (by simpa [zipK] using hj) (by simpa using hj')
theorem rdTail {w} {p : Addr} {xs ys : List Value} {n : Nat} (h : RdL w p (xs ++ ys)) (hn : xs.length = n) : RdL w (p.add n) ys := by rw [<- hn]; exact h.right
theorem Frag.rd {c : MC} {s : MSt} {v : UC} {u : UV} {bi di : Addr} {isp : Option Addr} {d : DSt} {R} {a b : ByteArray} {sets : List KC} {svs : List (ByteArray × ByteArray)} {w} (fr : Frag c v.sn s a b sets) (hsv : SVs c.D sets svs) (h : Sat w (WX c s v u bi isp di d R)) : SpanRd w (c.m.add 4) (s.s0, s.s1, s.s2, s.s3) (fun j => sets.getD j kd) a b (zipK sets svs) := by
 obtain ⟨start, end_, s0, s1, s2, s3, dir, keys, kn, kcs, buf, bb, rev, N, f, pos⟩ := s
 obtain ⟨st, en, e0, e1, e2, e3, e4, e5, lt, ba, bbd, cv, vi⟩ := fr
 dsimp only at e0 e1 e2 e3 e4 e5
 subst e0 e1 e2 e3 e4 e5
 have hl := hsv.len
 obtain ⟨zl, zg⟩ := zipK_get hsv
 refine ⟨?_, SAt.rd (show Sat _ (MSL c _ _) from h) st.2, SAt.rd (show Sat _ (MSL c _ _) from h) en.2, zl.symm, fun j hj => ?_⟩
 ·have h1 := h.rdL .k4
  have h2 := rdTail (n := 4) (xs := [_, _, _, _]) (ys := _ :: _ :: _ :: _ :: _ :: _ :: []) h1 rfl
  exact RdL.left (xs := [_, _, _, _]) (ys := [_, _]) h2
 ·have hj' : j < sets.length := by omega
  obtain ⟨e, he, hr⟩ := bufRow (ks := sets) (b := ⟨keys.a, sets.length, keys.c⟩) h .k7 hj'
  obtain ⟨g0, g1, g2⟩ := zg j hj hj'
  dsimp only
  rw [getD_of hj']
  exact ⟨e, he, hr, g0, h.rdB .k3 g1, h.rdB .k3 g2⟩
theorem DOk.rd {c : MC} {s : MSt} {v : UC} {u : UV} {bi di : Addr} {isp : Option Addr} {d : DSt} {R} {a b : ByteArray} {svs : List (ByteArray × ByteArray)} {w} (hd : DOk d a b svs) (h : Sat w (WX c s v u bi isp di d R)) : SpanRd w (di.add 6) (d.cs, d.ce, d.KB, 1) (fun j => d.ks.getD j kd) a b (zipK d.ks svs) := by
 have hl := hd.sv.len
 obtain ⟨zl, zg⟩ := zipK_get hd.sv
 refine ⟨?_, dRd h hd.cs, dRd h hd.ce, by rw [zl]; exact hd.kn, fun j hj => ?_⟩
 ·have h1 := h.rdL .k15
  have h2 := rdTail (n := 6) (xs := [_, _, _, _, _, _]) (ys := _ :: _ :: _ :: _ :: _ :: _ :: []) h1 rfl
  have h3 := RdL.left (xs := [_, _, _, _]) (ys := [_, _]) h2
  rw [hd.ck, hd.ord] at h3
  exact h3
 ·have hj' : j < d.ks.length := by omega
  obtain ⟨e, he, hr⟩ := bufRow (ks := d.ks) (b := d.KB) h .k19 hj'
  obtain ⟨g0, g1, g2⟩ := zg j hj hj'
  have tD : ∀ {x : Sl} {t : ByteArray}, BytesAt d.D2 x t -> RdB w x.a x.n t := fun hx => h.rdB .k17 hx
  dsimp only
  rw [getD_of hj']
  exact ⟨e, he, hr, g0, tD g1, tD g2⟩
def SeekRes (c : MC) (v : UC) (kb : ByteArray) (r : Option Addr) (rd : Addr -> Sl × Sl × Sl × Int -> (Nat -> KC) -> ByteArray -> ByteArray -> List KeyM -> Prop) : Prop :=
 (r = none /\ ¬ covd c kb) \/ ∃ p x kg lo hi ks, r = some p /\ rd p x kg lo hi ks /\ ks.length < 2^32 /\ ((bcmp lo kb <= 0 /\ bcmp kb hi < 0 /\ IsC v.sn (keysAt c kb) (ks.map svOf)) \/ (bcmp kb lo < 0 /\ ¬ covd c kb))
theorem spec260 {c : MC} {s : MSt} {v : UC} {u : UV} {bi di : Addr} {isp : Option Addr} {d : DSt} {R R'} {kc : Chunk} {kb : ByteArray} {key : Sl} {w} {K : Option Addr -> WP} (cx : CtxOK c v) (hkn : KN s) (hA : d.A.c <= 2^41) (hcq : DAt c.D (v.cq.add 0) cmpV)
  (t : Take R kc R') (hkey : ∀ w L, Sat w (kc :: L) -> RdB w key.a key.n kb) (h : Sat w (WX c s v u bi isp di d R))
  (k : ∀ r s' u' isp' d' w', Sat w' (WX c s' v u' bi isp' di d' R) -> SeekRes c v kb r (fun p x kg lo hi ks => ∀ R'' w'', Sat w'' (WX c s' v u' bi isp' di d' R'') -> SpanRd w'' p x kg lo hi ks) -> K r w') : F260 (some di) key K w := by
 have lo := cx.lo
 unfold F260
 have h' := h
 unfold WX MSU MSL hp MSR UIL DL at h
 refine ⟨_, rfl, Ld1 h ?_⟩
 refine CallI_run m219SeekGE (call247 (key2 := key) (spec247 cx hkn (.there (.there (.there (.there (.there (.there t)))))) hkey h'.near ?_ ?_))
 ·intro s' u' w hN hnc h'
  have h : Sat w (WX c s' v u' bi none di d R) := h'
  unfold WX MSU MSL hp MSR UIL DL at h
  refine ⟨_, rfl, St1 h rfl fun w h => ⟨_, rfl, Ld1 h (ifNone ⟨_, rfl, St1 h rfl fun w h => ?_⟩)⟩⟩
  exact k none s' u' none { d with isp := none, ipos := 0 } w h (.inl ⟨rfl, hnc kb (le_refl_b kb)⟩)
 intro s a b sets u w hf hc fr hkb hnc h'
 have h : Sat w (WX c s v u bi (some (c.m.add 4)) di d R) := h'
 clear h'
 unfold WX MSU MSL hp MSR UIL DL at h
 refine ⟨_, rfl, St1 h rfl fun w h => ⟨_, rfl, Ld1 h (ifSome ⟨_, rfl, Ld1 h ?_⟩)⟩⟩
 have h' : Sat w (WX c s v u bi (some (c.m.add 4)) di { d with isp := some (c.m.add 4) } R) := h
 obtain ⟨svs, hsv, hic⟩ := fr.vis.sv (cx.nd a)
 have hl := hsv.len
 refine call134 (spec134s fr (show Sat w (MSL c s _) from h') ?_)
 by_cases e : sets.length = 0
 ·rw [if_pos (by simp [e])]
  refine ⟨_, rfl, St1 h rfl fun w h => ⟨_, rfl, Ld1 h ?_⟩⟩
  refine k _ s u (some (c.m.add 4)) { d with isp := some (c.m.add 4), ipos := 0 } w h (.inr ⟨_, _, _, a, b, _, rfl, fun R'' w'' h => fr.rd hsv h, by rw [(zipK_get hsv).1]; exact fr.len cx, ?_⟩)
  rw [zipK_sv hsv]
  by_cases hak : bcmp a kb <= 0
  ·refine .inl ⟨hak, hkb, ?_⟩
   rw [(fr.cv kb hak hkb).2]; exact hic
  ·exact .inr ⟨not_le_b.1 hak, hnc kb (le_refl_b kb) (not_le_b.1 hak)⟩
 rw [if_neg (by simp [e])]
 have hne : svs ≠ [] := fun h0 => e (by rw [hl, h0]; rfl)
 refine ⟨_, rfl, Ld1 h ⟨_, rfl, LdC (h.near.dat .k3 hcq) ⟨_, rfl, Ld1 h ⟨_, rfl, Ld1 h ?_⟩⟩⟩⟩
 rw [fr.s0]
 have hrk := hkey w.drew _ ((h.near (w' := w.drew)).take (MSU.there (.there (.there (.there (.there (.there (.there (.there t)))))))))
 refine callCmp (a := s.start) (b := key) (SAt.rd (show Sat _ (MSL c s _) from h'.near) fr.st.2) hrk ?_
 refine ifd (fun hgt => ?_) (fun hle => ?_)
 ·have hka : bcmp kb a < 0 := by have := bcmp_anti kb a; omega
  refine call263 (spec263 (d := { d with isp := some (c.m.add 4) }) cx hA rfl hf hc fr hsv hic hne h'.near fun s' u' isp' d' e' w hd hbe hz h => ?_)
  exact k _ s' u' isp' d' w h (.inr ⟨_, _, _, a, e', _, rfl, fun R'' w'' h => hd.rd h, by rw [(zipK_get hd.sv).1, hd.sv.len, <- hl]; exact fr.len cx, .inr ⟨hka, hnc kb (le_refl_b kb) hka⟩⟩)
 have hak : bcmp a kb <= 0 := by omega
 refine call264 (spec264 (d := { d with isp := some (c.m.add 4) }) cx hA rfl hf hc fr hsv hic hne h'.near fun r w hD => ?_)
 clear h h'
 refine ⟨fun _ w => DoneB c v bi di R a b svs w, ?_, ?_⟩
 rotate_left
 ·obtain ⟨s, u, d, e, x, hdA, hip, hea, hal, he, hna, hxe, hnc, h'⟩ := hD
  have h := h'
  unfold WX MSU MSL hp MSR UIL DL at h
  refine ⟨_, rfl, Ld1 h ?_⟩
  cases hi : d.isp with
  | some p => exact ifSome ⟨s, u, d, e, x, hdA, hip, hea, hal, he, hna, hxe, hnc, h'⟩
  | none =>
   refine ifNone ⟨_, rfl, Ld1 h ?_⟩
   refine CallI_run m219Error (call242 (spec242 he h' fun w h' => ?_))
   refine ⟨IsI_enc _, ?_⟩
   rw [isNilI_enc]
   exact ifn (fun hh => by cases hh) (fun _ => ⟨s, u, d, e, x, hdA, hip, hea, hal, he, hna, hxe, hnc, h'⟩)
 clear hD
 rintro _ w ⟨s, u, d, e, x, hdA, hip, hea, hal, he, hna, hxe, hnc2, h'⟩
 have h := h'
 unfold WX MSU MSL hp MSR UIL DL at h
 refine ⟨_, rfl, Ld1 h ?_⟩
 rw [hip]
 refine ife (fun _ => ?_) (fun hh => (hh rfl).elim)
 refine ⟨_, rfl, Ld1 h ?_⟩
 have heb := bcmp_le_lt (bcmp_trans hea hak) hkb
 have hcv := hal e (le_refl_b e) heb
 refine CallI_run m219Next (call245 (spec245 cx hna h' ?_ ?_))
 ·intro s' u' w hN hnc3 h
  exact absurd hcv.1 (hnc3 e hxe)
 intro s' a2 b2 sets2 u' w f1 f2 f3 f4 f5 h'
 have hae : a2 = e := by
  have g1 : ¬ bcmp e a2 < 0 := fun hlt => f5 e hxe hlt hcv.1
  have g2 : ¬ bcmp a2 e < 0 := fun hlt => hnc2 a2 f4 hlt (f3.cv a2 (le_refl_b a2) f3.lt).1
  have := bcmp_anti a2 e
  exact bcmp_zero om
 subst hae
 obtain ⟨svs2, hsv2, hic2⟩ := f3.vis.sv (cx.nd a2)
 have hss := hic2.unique hcv.2
 subst hss
 clear h
 have h : Sat w (WX c s' v u' bi (some (c.m.add 4)) di d R) := h'
 unfold WX MSU MSL hp MSR UIL DL at h
 refine ⟨_, rfl, St1 h rfl fun w h => ?_⟩
 have h' : Sat w (WX c s' v u' bi (some (c.m.add 4)) di { d with isp := some (c.m.add 4) } R) := h
 refine call263 (spec263 (d := { d with isp := some (c.m.add 4) }) cx hdA rfl f1 f2 f3 hsv2 hic2 hne h' fun s3 u3 isp3 d3 e3 w hd hbe hz h => ?_)
 refine k _ s3 u3 isp3 d3 w h (.inr ⟨_, _, _, a2, e3, _, rfl, fun R'' w'' h => hd.rd h, by rw [(zipK_get hd.sv).1, hd.sv.len, <- hsv2.len]; exact f3.len cx, .inl ⟨bcmp_trans hea hak, hz kb (bcmp_trans hea hak) fun y hy1 hy2 => hal y hy1 (bcmp_le_lt hy2 hkb), ?_⟩⟩)
 rw [zipK_sv hd.sv]
 exact (hal kb (bcmp_trans hea hak) hkb).2
end Go.Proofs.YtpkoddfamelnhaaGreatDoor
