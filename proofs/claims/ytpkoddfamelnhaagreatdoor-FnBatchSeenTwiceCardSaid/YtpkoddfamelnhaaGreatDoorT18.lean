/- Part 18 of the proof of fnBatchSeenTwice_card. Conditions: none. -/
import Derived.Test.YtpkoddfamelnhaaGreatDoorT17
set_option linter.unusedVariables false
set_option linter.unusedSimpArgs false
namespace Go.Tr
theorem flat_list {α : Type} (f : α -> List Value) (d0 : α) : ∀ (l : List α) (n : Nat), n <= l.length -> flat (fun j => f (l.getD j d0)) n = (l.take n).flatMap f
 | l, 0, _ => by simp [flat]
 | l, n + 1, h => by
  have hn : n < l.length := h
  have e : l.take (n + 1) = l.take n ++ [l[n]] := by rw [List.take_add_one, List.getElem?_eq_getElem hn]; rfl
  rw [flat, flat_list f d0 l n om, e, List.flatMap_append, List.getD_eq_getElem?_getD, List.getElem?_eq_getElem hn]
  simp
theorem flat_all {α : Type} (f : α -> List Value) (d0 : α) (l : List α) : flat (fun j => f (l.getD j d0)) l.length = l.flatMap f := by
 rw [flat_list f d0 l l.length (Nat.le_refl _), List.take_length]
theorem App1 {s : SI} {k : Nat} (hk : s.l.length = k) {w w1 L R R'} {d : Sl} {p : Addr} {old new : List Value} {K : Sl -> WP} (h : Sat w L) [Near w w1] (t : Take L (Buf k d old) R) (t' : Take L (Arr p new) R')
  (hn : new.length = k) (h1 : ∀ v ∈ new, v.oneCell' = true) (hb : (2 * (d.n + 1) + 1024) * s.by_ <= 281474976710656) (hb' : d.n + 1 <= 9223372036854775807)
  (c : ∀ r w', r.n = d.n + 1 -> r.a.isSome = true -> Sat w' (Buf k r (old ++ new) :: R) -> K r w') : AppP s d ⟨some p, 1, 1⟩ K w1 := by
 subst hk
 refine AppP_run (w := w) (h.take t) (x := ⟨some p, 1, 1⟩) (new := new) ⟨by rw [hn, Nat.one_mul], Near.rdL (h.rdL t')⟩ (by rw [hn, Nat.one_mul]) h1 hb hb' fun r w' e1 e2 hs => c r w' e1 (e2 (Nat.succ_pos _)) hs
end Go.Tr
namespace Go.Proofs.YtpkoddfamelnhaaGreatDoor
open Go Go.Tr
set_option maxRecDepth 100000
def vis (sn : Int) (k : KC) : Bool := decide (k.1 / 256 < sn)
def collect (sn : Int) : List KC -> List KC × Option KC
 | [] => ([], none)
 | k :: l => if vis sn k then (if k.1 % 256 = 19 then ([], some k) else (k :: (collect sn l).1, (collect sn l).2)) else collect sn l
def kd : KC := (0, ⟨none, 0, 0⟩, ⟨none, 0, 0⟩)
structure KOk (k : KC) : Prop where
 h0 : 0 <= k.1
 h1 : k.1 < 9223372036854775808
abbrev keyRows (e : Addr) (ks : List KC) : Chunk := Rws e 3 ks.length (fun j => kcells (ks.getD j kd))
theorem keyRd {e : Addr} {ks : List KC} {L R w} (h : Sat w L) (t : Take L (keyRows e ks) R) {j : Nat} (hj : j < ks.length) : RdL w (e.add (j * 3)) (kcells ks[j]) := by
 have := rowRd (h.take t) hj
 rwa [List.getD_eq_getElem?_getD, List.getElem?_eq_getElem hj] at this
theorem coal1 {kb : Addr} {sn : Int} {ksl : Sl} {e : Addr} {ks : List KC} {Ks : Sl} {R} {w : World} (hks : (0 < ks.length -> ksl.a = some e) /\ ksl.n = ks.length) (hok : ∀ k ∈ ks, KOk k) (hlen : ks.length < 2^32) (hn : Ks.n = 0)
  (h : Sat w (Arr kb [cmpV, .slice Ks.a Ks.n Ks.c] :: Buf 3 Ks [] :: keyRows e ks :: R)) {J : Int -> WP}
  (k : ∀ (di : Int) (Ks' : Sl) w', ((collect sn ks).2 = none /\ di = -1 \/ ∃ j : Nat, di = j /\ ∃ hj : j < ks.length, (collect sn ks).2 = some ks[j]) -> Ks'.n = (collect sn ks).1.length -> (0 < Ks'.n -> Ks'.a.isSome = true) ->
   Sat w' (Arr kb [cmpV, .slice Ks'.a Ks'.n Ks'.c] :: Buf 3 Ks' ((collect sn ks).1.flatMap kcells) :: keyRows e ks :: R) -> J di w') :
  Tr.Loop (fun (next45 : (Int × Int) -> WP) (s44 : Int × Int) w => (if (decide (s44.2 < (ksl.n : Int))) = true then Tr.Join (fun (s46 : Unit) w => (0 <= s44.2 /\ s44.2 < (ksl.n : Int)) /\ (∃ e48, ksl.a = some e48 /\ Ld (.agg [.int .u64, .sl, .sl]) (e48.add (s44.2.toNat * 3)) (fun (x49 : Int × Sl × Sl) w => CallF Tryz.prog 231 [.agg #[.int .u64 x49.1, .slice x49.2.1.a x49.2.1.n x49.2.1.c, .slice x49.2.2.a x49.2.2.n x49.2.2.c], .int .u64 sn] [(.one .bool)] (fun (r50 : Bool) w => (if (!r50) = true then next45 (s44.1, (IntKind.i64.wrap (s44.2 + (1 : Int)))) w else (0 <= s44.2 /\ s44.2 < (ksl.n : Int)) /\ (∃ e51, ksl.a = some e51 /\ Ld (.agg [.int .u64, .sl, .sl]) (e51.add (s44.2.toNat * 3)) (fun (x52 : Int × Sl × Sl) w => CallF Tryz.prog 137 [.agg #[.int .u64 x52.1, .slice x52.2.1.a x52.2.1.n x52.2.1.c, .slice x52.2.2.a x52.2.2.n x52.2.2.c]] [(.one (.int .u8))] (fun (r53 : Int) w => (if (r53 == (19 : Int)) = true then J s44.2 w else ∃ p54, (some kb) = some p54 /\ Ld (.one .sl) (p54.add 1) (fun (Keys55 : Sl) w => (0 <= s44.2 /\ s44.2 < (ksl.n : Int)) /\ (∃ e56, ksl.a = some e56 /\ Ld (.agg [.int .u64, .sl, .sl]) (e56.add (s44.2.toNat * 3)) (fun (x57 : Int × Sl × Sl) w => NewS [.int .u64 x57.1, .slice x57.2.1.a x57.2.1.n x57.2.1.c, .slice x57.2.2.a x57.2.2.n x57.2.2.c] 267 1 (fun (l58 : Sl) w => LdAt (.one .sl) (p54.add 1) Keys55 w /\ AppP si109 Keys55 l58 (fun (a59 : Sl) w => ∃ p60, (some kb) = some p60 /\ St (p60.add 1) (.slice a59.a a59.n a59.c) (fun w => next45 (s44.1, (IntKind.i64.wrap (s44.2 + (1 : Int)))) w) w) w) w) w)) w.drew)) w) w))) w) w)) (fun J_47 => J_47 () w.drew) else J s44.1 w)) ((-1 : Int), (0 : Int)) w := by
 obtain ⟨hka, hkn⟩ := hks
 refine ⟨fun q (s : Int × Int) w => ∃ (i : Nat) (c : List KC) (Ks : Sl), s = (-1, (i : Int)) /\ i <= ks.length /\ q = ks.length - i /\ collect sn ks = (c ++ (collect sn (ks.drop i)).1, (collect sn (ks.drop i)).2) /\ c.length <= i /\ Ks.n = c.length /\ (0 < Ks.n -> Ks.a.isSome = true) /\
  Sat w (Arr kb [cmpV, .slice Ks.a Ks.n Ks.c] :: Buf 3 Ks (c.flatMap kcells) :: keyRows e ks :: R), ⟨_, 0, [], Ks, rfl, by omega, rfl, by simp, by simp, hn, by omega, h⟩, ?_⟩
 clear h
 rintro q s w ⟨i, c, Ks, rfl, hi, hq, hc, hcl, hKn, hKa, h⟩
 dsimp only
 refine ifd (fun hlt => ?_) (fun hge => ?_)
 ·have hj : i < ks.length := by omega
  have hd : ks.drop i = ks[i] :: ks.drop (i + 1) := List.drop_eq_getElem_cons hj
  rw [hd] at hc
  have hko := hok ks[i] (List.getElem_mem hj)
  refine ⟨fun _ w => Sat w (Arr kb [cmpV, .slice Ks.a Ks.n Ks.c] :: Buf 3 Ks (c.flatMap kcells) :: keyRows e ks :: R), fun _ w h => ?_, h.near⟩
  have hrd : ∀ w, Sat w (Arr kb [cmpV, .slice Ks.a Ks.n Ks.c] :: Buf 3 Ks (c.flatMap kcells) :: keyRows e ks :: R) -> RdL w (e.add (i * 3)) (kcells ks[i]) := fun w h => keyRd h .k2 hj
  unfold kcells at hrd
  rw [Int.toNat_natCast]
  refine ⟨⟨by omega, hlt⟩, _, hka om, LdR (hrd w h) ?_⟩
  refine call231 (k1 := ks[i]) (spec231 h hko.h0 (by have := hko.h1; omega) fun w h => ?_)
  refine ifn (fun hv => ?_) (fun hv => ?_)
  ·have : collect sn (ks[i] :: ks.drop (i + 1)) = collect sn (ks.drop (i + 1)) := by
    conv => lhs; unfold collect
    unfold vis; rw [hv]; rfl
   rw [this] at hc
   exact ⟨_, by omega, i + 1, c, Ks, by rw [w1 om], by omega, rfl, hc, by omega, hKn, hKa, h⟩
  ·refine ⟨⟨by omega, hlt⟩, _, hka om, LdR (hrd w h) ?_⟩
   refine call137 (k1 := ks[i]) (spec137 h hko.h0 (by have := hko.h1; omega) fun w h => ?_)
   refine ife (fun h19 => ?_) (fun h19 => ?_)
   ·have e1 : collect sn (ks[i] :: ks.drop (i + 1)) = ([], some ks[i]) := by
     conv => lhs; unfold collect
     unfold vis; rw [hv, if_pos rfl, if_pos h19]
    rw [e1] at hc
    simp only [List.append_nil] at hc
    refine k i Ks w (.inr ⟨i, rfl, hj, by rw [hc]⟩) (by rw [hc]; exact hKn) hKa ?_
    rw [hc]; exact h
   ·have e1 : collect sn (ks[i] :: ks.drop (i + 1)) = (ks[i] :: (collect sn (ks.drop (i + 1))).1, (collect sn (ks.drop (i + 1))).2) := by
     conv => lhs; unfold collect
     unfold vis; rw [hv, if_pos rfl, if_neg h19]
    rw [e1] at hc
    refine ⟨_, rfl, Ld1 h ⟨⟨by omega, hlt⟩, _, hka om, LdR (hrd w.drew h.near) (NewS_run h fun p w h => ⟨LdAt1 h, ?_⟩)⟩⟩
    refine App1 (k := 3) rfl h .k2 (.here) rfl (kcells_one ks[i]) ?_ (by dsimp only; omega) fun r w er ea h => ?_
    ·show (2 * (Ks.n + 1) + 1024) * 56 <= _
     omega
    replace h := h.t1.tail.t1
    refine ⟨_, rfl, St1 h rfl fun w h => ?_⟩
    refine ⟨_, by omega, i + 1, c ++ [ks[i]], r, by rw [w1 om], by omega, rfl, by rw [hc]; simp, by simp; omega, by simp; dsimp only at er; omega, fun _ => ea, ?_⟩
    rw [List.flatMap_append]
    simpa [kcells] using h
 ·have : i = ks.length := by omega
  subst this
  rw [List.drop_length] at hc
  simp only [collect, List.append_nil] at hc
  refine k (-1) Ks w (.inl ⟨by rw [hc], rfl⟩) (by rw [hc]; exact hKn) hKa ?_
  rw [hc]; exact h
theorem m401Len : MethAt Tryz.prog 401 "Len" 309 := by intro v w; kernel_rfl
theorem m401Less : MethAt Tryz.prog 401 "Less" 310 := by intro v w; kernel_rfl
theorem m401Swap : MethAt Tryz.prog 401 "Swap" 311 := by intro v w; kernel_rfl
def sufRows (D : Hp) (sb : KC -> ByteArray) (a : Addr) (n : Nat) (d : Nat -> KC × Nat) : Chunk := fun g => (∀ j, j < n -> BytesAt D (d j).1.2.1 (sb (d j).1)) /\ Rws a 3 n (fun j => kcells (d j).1) g
theorem sufOpen {D} {sb : KC -> ByteArray} {a : Addr} {n : Nat} {d : Nat -> KC × Nat} {L w} (h : Sat w (sufRows D sb a n d :: L)) : (∀ j, j < n -> BytesAt D (d j).1.2.1 (sb (d j).1)) /\ Sat w (Rws a 3 n (fun j => kcells (d j).1) :: L) := by
 obtain ⟨g, ⟨h1, hc⟩, hg⟩ := h
 exact ⟨h1, g, hc, hg⟩
theorem sufShut {D} {sb : KC -> ByteArray} {a : Addr} {n : Nat} {d : Nat -> KC × Nat} {L w} (h1 : ∀ j, j < n -> BytesAt D (d j).1.2.1 (sb (d j).1)) (h : Sat w (Rws a 3 n (fun j => kcells (d j).1) :: L)) : Sat w (sufRows D sb a n d :: L) :=
 h.cons fun _ hc => ⟨h1, hc⟩
def sufI (D : Hp) (sb : KC -> ByteArray) (v a : Addr) (s : Sl) (ha : 0 < s.n -> s.a = some a) (hn : s.n < 2^60) : SortI (KC × Nat) where
 v := .mk 401 (.pointer (some v))
 n := s.n
 lt := fun x y => decide (bcmp (sb x.1) (sb y.1) < 0)
 St := fun d => [sufRows D sb a s.n d, Arr v [cmpV, .slice s.a s.n s.c], Own D]
 small := hn
 less := fun d i j R w K hs hi hi' hj hj' k => by
  refine CallI_run m401Less (call310 ?_)
  unfold F310
  have hs' : Sat w (sufRows D sb a s.n d :: Arr v [cmpV, .slice s.a s.n s.c] :: Own D :: R) := hs
  obtain ⟨hb, h⟩ := sufOpen hs'
  have r1 := rowCell h (j := i.toNat) (i := 1) om rfl
  have r2 := rowCell h (j := j.toNat) (i := 1) om rfl
  have ea : s.a = some a := ha om
  refine ⟨_, rfl, Ld1 h ⟨_, rfl, Ld1 h ⟨⟨hi, hi'⟩, _, ea, LdC r1 ⟨_, rfl, Ld1 h ⟨⟨hj, hj'⟩, _, ea, LdC r2 ?_⟩⟩⟩⟩⟩
  refine callCmp (h.near.rdB .k2 (hb i.toNat om)) (h.near.rdB .k2 (hb j.toNat om)) ?_
  exact k _ hs.near
 swap := fun d i j R w K hs hi hi' hj hj' k => by
  refine CallI_run m401Swap (call311 ?_)
  unfold F311
  have hs' : Sat w (sufRows D sb a s.n d :: Arr v [cmpV, .slice s.a s.n s.c] :: Own D :: R) := hs
  obtain ⟨hb, h⟩ := sufOpen hs'
  have r1 : RdL w.drew (a.add (i.toNat * 3)) (kcells (d i.toNat).1) := rowRd (f := fun j => kcells (d j).1) h.near om
  have r2 : RdL w.drew (a.add (j.toNat * 3)) (kcells (d j.toNat).1) := rowRd (f := fun j => kcells (d j).1) h.near om
  unfold kcells at r1 r2
  have ea : s.a = some a := ha om
  refine ⟨_, rfl, Ld1 h ⟨_, rfl, Ld1 h ⟨_, rfl, Ld1 h ⟨⟨hj, hj'⟩, _, ea, LdR r2 ⟨_, rfl, Ld1 h ⟨⟨hi, hi'⟩, _, ea, LdR r1 ⟨⟨hi, hi'⟩, _, ea, ?_⟩⟩⟩⟩⟩⟩⟩
  have hsw := rowSwap (d := fun j => (d j).1) (K := fun w => K () w) (i := i.toNat) (j := j.toNat) (h.near (w' := w.drew)) om om fun w h => k w (by
   have e : (fun x => kcells (swp (fun j => (d j).1) i.toNat j.toNat x)) = fun x => kcells (swp d i.toNat j.toNat x).1 := by
    funext x; unfold swp upd
    by_cases e1 : x = j.toNat
    ·simp [e1]
    ·by_cases e2 : x = i.toNat
     ·rw [if_neg e1, if_pos e2, if_neg e1, if_pos e2]
     ·rw [if_neg e1, if_neg e2, if_neg e1, if_neg e2]
   rw [e] at h
   refine sufShut (fun q hq => ?_) h
   unfold swp upd
   by_cases e1 : q = j.toNat
   ·rw [if_pos e1]; exact hb _ om
   ·rw [if_neg e1]
    by_cases e2 : q = i.toNat
    ·rw [if_pos e2]; exact hb _ om
    ·rw [if_neg e2]; exact hb _ hq)
  refine ⟨hsw.1, ⟨hj, hj'⟩, _, ea, hsw.2⟩
theorem suf_len {D} {sb : KC -> ByteArray} {v a : Addr} {s : Sl} {ha : 0 < s.n -> s.a = some a} {hn : s.n < 2^60} {d : Nat -> KC × Nat} {R} (w : World) (K : Int -> WP) (hs : Sat w ((sufI D sb v a s ha hn).St d ++ R)) (k : ∀ w', Sat w' ((sufI D sb v a s ha hn).St d ++ R) -> K s.n w') :
  CallI Tryz.prog (sufI D sb v a s ha hn).v.enc "Len" [] [.one (.int .i64)] K w := by
 refine CallI_run m401Len (call309 ?_)
 unfold F309
 have h : Sat w (sufRows D sb a s.n d :: Arr v [cmpV, .slice s.a s.n s.c] :: Own D :: R) := hs
 exact ⟨_, rfl, Ld1 h (k _ hs)⟩
theorem sufSWO {D} {sb : KC -> ByteArray} {v a : Addr} {s : Sl} {ha : 0 < s.n -> s.a = some a} {hn : s.n < 2^60} : SWO (sufI D sb v a s ha hn).lt := by
 refine ⟨fun x y h => ?_, fun x y z h k => ?_⟩
 ·simp only [sufI, decide_eq_true_eq, decide_eq_false_iff_not] at *
  have := bcmp_anti (sb x.1) (sb y.1); omega
 ·simp only [sufI, decide_eq_false_iff_not] at *
  have h1 := bcmp_anti (sb x.1) (sb y.1)
  have h2 := bcmp_anti (sb y.1) (sb z.1)
  have h3 := bcmp_anti (sb x.1) (sb z.1)
  have := bcmp_trans (s := sb z.1) (t := sb y.1) (u := sb x.1) om om
  omega
end Go.Proofs.YtpkoddfamelnhaaGreatDoor
