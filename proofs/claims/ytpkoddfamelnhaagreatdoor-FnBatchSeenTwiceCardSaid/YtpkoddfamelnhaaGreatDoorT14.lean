/- Part 14 of the proof of fnBatchSeenTwice_card. Conditions: none. -/
import Derived.Test.YtpkoddfamelnhaaGreatDoorT12
import Derived.Test.YtpkoddfamelnhaaGreatDoorT13
set_option linter.unusedVariables false
set_option linter.unusedSimpArgs false
namespace Go.Tr
variable {α : Type}
def swp (d : Nat -> α) (i j : Nat) : Nat -> α := upd (upd d i (d j)) j (d i)
theorem swp_r (d : Nat -> α) (i j : Nat) : swp d i j j = d i := upd_same _ _ _
theorem swp_l (d : Nat -> α) (i j : Nat) : swp d i j i = d j := by
 unfold swp
 by_cases e : i = j
 ·subst e; rw [upd_same]
 ·rw [upd_other e, upd_same]
theorem swp_o (d : Nat -> α) {i j m : Nat} (h1 : m ≠ i) (h2 : m ≠ j) : swp d i j m = d m := by unfold swp; rw [upd_other h2, upd_other h1]
def SameI (a b : Nat) (d d' : Nat -> α) : Prop := ∃ σ τ : Nat -> Nat, (∀ j, σ (τ j) = j) /\ (∀ j, τ (σ j) = j) /\ (∀ j, a <= j -> j < b -> a <= σ j /\ σ j < b) /\ (∀ j, j < a \/ b <= j -> σ j = j) /\ ∀ j, d' j = d (σ j)
theorem SameI.refl (a b : Nat) (d : Nat -> α) : SameI a b d d := ⟨id, id, fun _ => rfl, fun _ => rfl, fun _ h k => ⟨h, k⟩, fun _ _ => rfl, fun _ => rfl⟩
theorem SameI.trans {a b : Nat} {f g h : Nat -> α} (x : SameI a b f g) (y : SameI a b g h) : SameI a b f h := by
 obtain ⟨σ, τ, h1, h2, h3, h4, h5⟩ := x
 obtain ⟨σ', τ', k1, k2, k3, k4, k5⟩ := y
 exact ⟨fun j => σ (σ' j), fun j => τ' (τ j), fun j => by dsimp only; rw [k1, h1], fun j => by dsimp only; rw [h2, k2], fun j hj hj' => h3 _ (k3 _ hj hj').1 (k3 _ hj hj').2, fun j hj => by dsimp only; rw [k4 _ hj, h4 _ hj], fun j => by rw [k5, h5]⟩
theorem SameI.mono {a b a' b' : Nat} {d d' : Nat -> α} (h : SameI a b d d') (ha : a' <= a) (hb : b <= b') : SameI a' b' d d' := by
 obtain ⟨σ, τ, h1, h2, h3, h4, h5⟩ := h
 refine ⟨σ, τ, h1, h2, fun j hj hj' => ?_, fun j hj => h4 j om, h5⟩
 by_cases e : a <= j /\ j < b
 ·have := h3 j e.1 e.2; omega
 ·rw [h4 j om]; exact ⟨hj, hj'⟩
theorem SameI.swap {a b : Nat} (d : Nat -> α) {i j : Nat} (hi : a <= i) (hi' : i < b) (hj : a <= j) (hj' : j < b) : SameI a b d (swp d i j) := by
 refine ⟨fun m => if m = j then i else if m = i then j else m, fun m => if m = j then i else if m = i then j else m, fun m => ?_, fun m => ?_, fun m hm hm' => ?_, fun m hm => ?_, fun m => ?_⟩
 ·by_cases e1 : m = j <;> by_cases e2 : m = i <;> by_cases e3 : i = j <;> simp_all
 ·by_cases e1 : m = j <;> by_cases e2 : m = i <;> by_cases e3 : i = j <;> simp_all
 ·dsimp only; split
  ·exact ⟨hi, hi'⟩
  ·split
   ·exact ⟨hj, hj'⟩
   ·exact ⟨hm, hm'⟩
 ·dsimp only; rw [if_neg om, if_neg om]
 ·dsimp only; split
  ·rename_i e; subst e; exact swp_r _ _ _
  ·split
   ·rename_i e; subst e; exact swp_l _ _ _
   ·rename_i e1 e2; exact swp_o _ e2 e1
theorem SameI.out {a b : Nat} {d d' : Nat -> α} (h : SameI a b d d') {j : Nat} (hj : j < a \/ b <= j) : d' j = d j := by
 obtain ⟨σ, τ, h1, h2, h3, h4, h5⟩ := h
 rw [h5, h4 j hj]
theorem SameI.back {a b : Nat} {d d' : Nat -> α} (h : SameI a b d d') {j : Nat} (hj : a <= j) (hj' : j < b) : ∃ i, a <= i /\ i < b /\ d' j = d i := by
 obtain ⟨σ, τ, h1, h2, h3, h4, h5⟩ := h
 exact ⟨σ j, (h3 j hj hj').1, (h3 j hj hj').2, h5 j⟩
theorem SameI.all {a b : Nat} {d d' : Nat -> α} (h : SameI a b d d') {P : α -> Prop} (hp : ∀ i, a <= i -> i < b -> P (d i)) : ∀ i, a <= i -> i < b -> P (d' i) := fun i h1 h2 => by
 obtain ⟨j, j1, j2, e⟩ := h.back h1 h2
 rw [e]; exact hp j j1 j2
structure SWO (lt : α -> α -> Bool) : Prop where
 asymm : ∀ a b, lt a b = true -> lt b a = false
 ntrans : ∀ a b c, lt a b = false -> lt b c = false -> lt a c = false
theorem SWO.irrefl {lt : α -> α -> Bool} (h : SWO lt) (a : α) : lt a a = false := by
 cases hq : lt a a with
 | false => rfl
 | true => have := h.asymm _ _ hq; rw [hq] at this; exact this
def Sorted (lt : α -> α -> Bool) (a b : Nat) (d : Nat -> α) : Prop := ∀ i j, a <= i -> i < j -> j < b -> lt (d j) (d i) = false
def BelowI (lt : α -> α -> Bool) (a b : Nat) (d : Nat -> α) : Prop := a = 0 \/ ∀ i, a <= i -> i < b -> lt (d i) (d (a - 1)) = false
def Ins (lt : α -> α -> Bool) (a i j : Nat) (d : Nat -> α) : Prop := ∀ x y, a <= x -> x < y -> y <= i -> y ≠ j -> lt (d y) (d x) = false
theorem Ins.stop1 {lt : α -> α -> Bool} {a i : Nat} {d : Nat -> α} (h : Ins lt a i a d) : Sorted lt a (i + 1) d := fun x y h1 h2 h3 => h x y h1 h2 om om
theorem Ins.stop2 {lt : α -> α -> Bool} (hw : SWO lt) {a i j : Nat} {d : Nat -> α} (h : Ins lt a i j d) (haj : a < j) (hji : j <= i) (hs : lt (d j) (d (j - 1)) = false) : Sorted lt a (i + 1) d := fun x y h1 h2 h3 => by
 by_cases e : y = j
 ·subst e
  by_cases e2 : x = y - 1
  ·subst e2; exact hs
  ·exact hw.ntrans _ _ _ hs (h x (y - 1) h1 om om om)
 ·exact h x y h1 h2 om e
theorem Ins.step {lt : α -> α -> Bool} (hw : SWO lt) {a i j : Nat} {d : Nat -> α} (h : Ins lt a i j d) (haj : a < j) (hji : j <= i) (hs : lt (d j) (d (j - 1)) = true) : Ins lt a i (j - 1) (swp d j (j - 1)) := by
 intro x y h1 h2 h3 h4
 by_cases ey : y = j
 ·subst ey
  rw [swp_l]
  by_cases ex : x = y - 1
  ·subst ex; rw [swp_r]; exact hw.asymm _ _ hs
  ·rw [swp_o d om ex]; exact h x (y - 1) h1 om om om
 ·rw [swp_o d ey h4]
  by_cases ex : x = j
  ·subst ex; rw [swp_l]; exact h (x - 1) y om om h3 ey
  ·by_cases ex2 : x = j - 1
   ·subst ex2; rw [swp_r]; exact h j y om om h3 ey
   ·rw [swp_o d ex ex2]; exact h x y h1 h2 h3 ey
end Go.Tr
namespace Go.Proofs.YtpkoddfamelnhaaGreatDoor
open Go Go.Tr
set_option maxRecDepth 100000
structure SortI (α : Type) where
 v : IV
 n : Nat
 lt : α -> α -> Bool
 St : (Nat -> α) -> List Chunk
 small : n < 2^60
 less : ∀ (d : Nat -> α) (i j : Int) (R : List Chunk) (w : World) (K : Bool -> WP), Sat w (St d ++ R) -> 0 <= i -> i < n -> 0 <= j -> j < n -> (∀ w', Sat w' (St d ++ R) -> K (lt (d i.toNat) (d j.toNat)) w') ->
  CallI Tryz.prog v.enc "Less" [.int .i64 i, .int .i64 j] [.one .bool] K w
 swap : ∀ (d : Nat -> α) (i j : Int) (R : List Chunk) (w : World) (K : Unit -> WP), Sat w (St d ++ R) -> 0 <= i -> i < n -> 0 <= j -> j < n -> (∀ w', Sat w' (St (swp d i.toNat j.toNat) ++ R) -> K () w') ->
  CallI Tryz.prog v.enc "Swap" [.int .i64 i, .int .i64 j] [] K w
theorem n1 {n : Nat} (h : 0 < n) (h' : n < 2^60) : IntKind.i64.wrap ((n : Int) - 1) = ((n - 1 : Nat) : Int) := by rw [wi64 om om]; omega
section
variable {α : Type} {I : SortI α}
theorem spec157 (hw : SWO I.lt) {d : Nat -> α} {a b : Nat} {R w} {K : Unit -> WP} (hs : Sat w (I.St d ++ R)) (hab : a <= b) (hb : b <= I.n)
  (k : ∀ d' w', SameI a b d d' -> Sorted I.lt a b d' -> Sat w' (I.St d' ++ R) -> K () w') : F157 I.v a b K w := by
 have hn := I.small
 unfold F157
 rw [w1 om]
 refine ⟨fun m (s : Int) w => ∃ (i : Nat) (d' : Nat -> α), s = i /\ a < i /\ m = b - i /\ SameI a b d d' /\ Sorted I.lt a (min i b) d' /\ Sat w (I.St d' ++ R), ⟨_, a + 1, d, rfl, by omega, rfl, SameI.refl _ _ _, fun x y _ _ _ => by omega, hs⟩, ?_⟩
 clear hs
 rintro m s w ⟨i, d', rfl, hai, hm, h1, h2, hs⟩
 refine ifd (fun hc => ?_) (fun hc => ?_)
 ·refine ⟨fun m' (s : Int) w => ∃ (j : Nat) (d'' : Nat -> α), s = j /\ a <= j /\ j <= i /\ m' = j /\ SameI a b d d'' /\ Ins I.lt a i j d'' /\ Sat w (I.St d'' ++ R), ⟨_, i, d', rfl, by omega, by omega, rfl, h1, fun x y q1 q2 q3 q4 => h2 x y q1 q2 om, hs⟩, ?_⟩
  clear hs h1 h2 d'
  rintro m' s w ⟨j, d', rfl, haj, hji, hm', h1, h2, hs⟩
  have fin : ∀ w, Sorted I.lt a (i + 1) d' -> Sat w (I.St d' ++ R) -> ∃ m1, m1 < m /\ ∃ (i' : Nat) (d' : Nat -> α), IntKind.i64.wrap ((i : Int) + 1) = i' /\ a < i' /\ m1 = b - i' /\ SameI a b d d' /\ Sorted I.lt a (min i' b) d' /\ Sat w (I.St d' ++ R) :=
   fun w h3 hs => ⟨b - (i + 1), by omega, i + 1, d', w1 om, by omega, rfl, h1, fun x y q1 q2 q3 => h3 x y q1 q2 om, hs⟩
  refine ifd (fun hc' => ?_) (fun hc' => ?_)
  ·rw [n1 om om]
   refine I.less d' _ _ R w _ hs om om om om fun w hs => ?_
   rw [Int.toNat_natCast, Int.toNat_natCast]
   refine ifb (fun hl => ?_) (fun hl => ?_)
   ·refine I.swap d' _ _ R w _ hs om om om om fun w hs => ?_
    rw [Int.toNat_natCast, Int.toNat_natCast] at hs
    exact ⟨j - 1, by omega, j - 1, _, rfl, by omega, by omega, rfl, h1.trans (SameI.swap _ om om om om), h2.step hw om hji hl, hs⟩
   ·exact fin w (h2.stop2 hw om hji hl) hs
  ·have : j = a := by omega
   subst this
   exact fin w h2.stop1 hs
 ·exact k _ _ h1 (by rwa [Nat.min_eq_right om] at h2) hs
theorem SWO.flip {lt : α -> α -> Bool} (h : SWO lt) : SW (fun x y => lt y x) := ⟨fun a b e => h.asymm _ _ e, fun a b c e f => h.ntrans _ _ _ f e⟩
theorem swp_off (d : Nat -> α) (o i j : Nat) : (fun p => swp d (o + i) (o + j) (o + p)) = upd (upd (fun p => d (o + p)) i (d (o + j))) j (d (o + i)) := by
 funext p
 unfold swp upd
 by_cases e1 : p = j
 ·subst e1; simp
 ·by_cases e2 : p = i
  ·subst e2; rw [if_neg om, if_pos rfl, if_neg e1, if_pos rfl]
  ·rw [if_neg om, if_neg om, if_neg e1, if_neg e2]
def MaxH (lt : α -> α -> Bool) (d : Nat -> α) (o n i0 : Nat) : Prop := HeapFrom (fun x y => lt y x) (fun p => d (o + p)) n i0
theorem spec166 (hw : SWO I.lt) {d : Nat -> α} {lo hi o : Nat} {R w} {K : Unit -> WP} (hs : Sat w (I.St d ++ R)) (hlo : lo <= hi) (hb : o + hi <= I.n) (hh : MaxH I.lt d o hi (lo + 1))
  (k : ∀ d' w', SameI o (o + hi) d d' -> MaxH I.lt d' o hi lo -> Sat w' (I.St d' ++ R) -> K () w') : F166 I.v lo hi o K w := by
 have hn := I.small
 unfold F166
 refine ⟨fun m (s : Int) w => ∃ (d' : Nat -> α) (i : Nat), s = i /\ lo <= i /\ i <= hi /\ m = hi - i /\ SameI o (o + hi) d d' /\ HInv (fun x y => I.lt y x) (fun p => d' (o + p)) hi lo i /\ Sat w (I.St d' ++ R), ⟨_, d, lo, rfl, Nat.le_refl _, hlo, rfl, SameI.refl _ _ _, HInv.start hh, hs⟩, ?_⟩
 clear hs hh
 rintro m s w ⟨d', i, rfl, hi0, hiN, hm, hsm, hinv, hs⟩
 by_cases hbig : hi <= 2 * i + 1
 ·have hsmall : (i : Int) < 2^60 := by omega
  have e1 : IntKind.i64.wrap ((IntKind.i64.wrap (2 * (i : Int))) + 1) = 2 * i + 1 := by
   rw [wi64 (x := 2 * (i : Int)) om om, wi64 om om]
  simp only [e1]
  exact ifd (fun _ => k _ _ hsm (hinv.stop1 hbig) hs) (fun hc => by omega)
 have e1 : IntKind.i64.wrap ((IntKind.i64.wrap (2 * (i : Int))) + 1) = 2 * i + 1 := by
  rw [wi64 (x := 2 * (i : Int)) om om, wi64 om om]
 have e2 : IntKind.i64.wrap ((2 * (i : Int) + 1) + 1) = 2 * i + 2 := by rw [wi64 om om]; omega
 have e3 : IntKind.i64.wrap ((o : Int) + (2 * (i : Int) + 1)) = ((o + (2 * i + 1) : Nat) : Int) := by rw [wi64 om om]; omega
 have e4 : IntKind.i64.wrap (((o + (2 * i + 1) : Nat) : Int) + 1) = ((o + (2 * i + 2) : Nat) : Int) := by rw [wi64 om om]; omega
 have e5 : IntKind.i64.wrap ((o : Int) + (i : Int)) = ((o + i : Nat) : Int) := by rw [wi64 om om]; omega
 simp only [e1, e2, e3, e4, e5]
 refine ifd (fun hc => by omega) (fun hc => ?_)
 refine ⟨fun (x : Int) w => ∃ j : Nat, x = j /\ 0 < j /\ j < hi /\ (j - 1) / 2 = i /\ (∀ m, 0 < m -> m < hi -> (m - 1) / 2 = i -> I.lt (d' (o + j)) (d' (o + m)) = false) /\ Sat w (I.St d' ++ R), ?_, ?_⟩
 ·rintro x w ⟨j, rfl, hj0, hjn, hjp, hmax, hs⟩
  have e6 : IntKind.i64.wrap ((o : Int) + (j : Int)) = ((o + j : Nat) : Int) := by rw [wi64 om om]; omega
  rw [e6]
  refine I.less d' _ _ R w _ hs om om om om fun w hs => ?_
  rw [Int.toNat_natCast, Int.toNat_natCast]
  refine ifn (fun hl => ?_) (fun hl => ?_)
  ·exact k _ _ hsm (hinv.stop2 (j := j) (SWO.flip hw) hmax hl) hs
  ·refine I.swap d' _ _ R w _ hs om om om om fun w hs => ?_
   rw [Int.toNat_natCast, Int.toNat_natCast] at hs
   refine ⟨hi - j, by omega, _, j, rfl, by omega, by omega, rfl, hsm.trans (SameI.swap d' (i := o + i) (j := o + j) om om om om), ?_, hs⟩
   rw [swp_off]
   exact hinv.step (SWO.flip hw) hi0 hmax ⟨hj0, hjn, hjp⟩ hl
 ·refine ifd (fun hc => ?_) (fun hc => ?_)
  ·refine I.less d' _ _ R w _ hs om om om om fun w hs => ?_
   rw [Int.toNat_natCast, Int.toNat_natCast]
   refine ifb (fun hl => ?_) (fun hl => ?_)
   ·refine ⟨2 * i + 2, by omega, by omega, by omega, by omega, fun m h0 h1 h2 => ?_, hs⟩
    have hm : m = 2 * i + 1 \/ m = 2 * i + 2 := by omega
    rcases hm with rfl | rfl
    ·exact hw.asymm _ _ hl
    ·exact hw.irrefl _
   ·refine ⟨2 * i + 1, by omega, by omega, by omega, by omega, fun m h0 h1 h2 => ?_, hs⟩
    have hm : m = 2 * i + 1 \/ m = 2 * i + 2 := by omega
    rcases hm with rfl | rfl
    ·exact hw.irrefl _
    ·exact hl
  ·refine ⟨2 * i + 1, by omega, by omega, by omega, by omega, fun m h0 h1 h2 => ?_, hs⟩
   have hm : m = 2 * i + 1 := by omega
   subst hm
   exact hw.irrefl _
theorem MaxH.root {lt : α -> α -> Bool} (hw : SWO lt) {d : Nat -> α} {o n : Nat} (h : MaxH lt d o n 0) : ∀ m, m < n -> lt (d o) (d (o + m)) = false := by
 intro m
 induction m using Nat.strongRecOn with
 | _ m ih =>
  intro hm
  by_cases e : m = 0
  ·subst e; exact hw.irrefl _
  ·exact hw.ntrans _ _ _ (ih ((m - 1) / 2) om om) (h m om hm (Nat.zero_le _))
theorem spec158 (hw : SWO I.lt) {d : Nat -> α} {a b : Nat} {R w} {K : Unit -> WP} (hs : Sat w (I.St d ++ R)) (hab : a <= b) (hb : b <= I.n)
  (k : ∀ d' w', SameI a b d d' -> Sorted I.lt a b d' -> Sat w' (I.St d' ++ R) -> K () w') : F158 I.v a b K w := by
 have hn := I.small
 unfold F158
 have e1 : IntKind.i64.wrap ((b : Int) - (a : Int)) = ((b - a : Nat) : Int) := by rw [wi64 om om]; omega
 have e2 : IntKind.i64.wrap (((b - a : Nat) : Int) - 1) = ((b - a : Nat) : Int) - 1 := by rw [wi64 om om]
 have e3 : ∃ q : Nat, IntKind.i64.wrap ((((b - a : Nat) : Int) - 1).tdiv 2) = q /\ b - a <= 2 * q + 2 /\ (q <= b - a) := by
  by_cases e : b - a = 0
  ·refine ⟨0, ?_, by omega, by omega⟩
   rw [e]; decide
  ·refine ⟨(b - a - 1) / 2, ?_, by omega, by omega⟩
   rw [Int.tdiv_eq_ediv_of_nonneg om, wi64 om om]; omega
 obtain ⟨q, e3, hq, hq'⟩ := e3
 simp only [e1, e2, e3]
 refine ⟨by omega, ?_⟩
 refine ⟨fun m (s : Int) w => ∃ (d' : Nat -> α) (i : Nat), s = (i : Int) - 1 /\ i <= b - a + 1 /\ m = i /\ SameI a b d d' /\ MaxH I.lt d' a (b - a) i /\ Sat w (I.St d' ++ R), ⟨_, d, q + 1, by omega, by omega, rfl, SameI.refl _ _ _, fun m h0 h1 h2 => by omega, hs⟩, ?_⟩
 clear hs
 rintro m s w ⟨d', i, rfl, hi, hm, h1, h2, hs⟩
 have hba : a + (b - a) = b := by omega
 refine ifd (fun hc => ?_) (fun hc => ?_)
 ·have e : ((i : Int) - 1) = ((i - 1 : Nat) : Int) := by omega
  rw [e]
  refine call166 (spec166 (lo := i - 1) (hi := b - a) (o := a) hw hs om om (by rw [show i - 1 + 1 = i by omega]; exact h2) fun d'' w h3 h4 hs => ?_)
  rw [hba] at h3
  refine ⟨i - 1, by omega, d'', i - 1, ?_, by omega, rfl, h1.trans h3, h4, hs⟩
  rw [wi64 om om]
 ·have : i = 0 := by omega
  subst this
  refine ⟨fun m (s : Int) w => ∃ (d' : Nat -> α) (i : Nat), s = (i : Int) - 1 /\ i <= b - a /\ m = i /\ SameI a b d d' /\ MaxH I.lt d' a i 0 /\ Sorted I.lt (a + i) b d' /\ (∀ x y, x < i -> a + i <= y -> y < b -> I.lt (d' y) (d' (a + x)) = false) /\ Sat w (I.St d' ++ R), ⟨_, d', b - a, rfl, by omega, rfl, h1, h2, fun x y q1 q2 q3 => by omega, fun x y q1 q2 q3 => by omega, hs⟩, ?_⟩
  clear hs h1 h2 d' hc hm hi
  rintro m s w ⟨d', i, rfl, hi, hm, h1, h2, h3, h4, hs⟩
  refine ifd (fun hc => ?_) (fun hc => ?_)
  ·have e : ((i : Int) - 1) = ((i - 1 : Nat) : Int) := by omega
   have e' : IntKind.i64.wrap ((a : Int) + ((i - 1 : Nat) : Int)) = ((a + (i - 1) : Nat) : Int) := by rw [wi64 om om]; omega
   simp only [e, e']
   refine I.swap d' _ _ R w _ hs om om om om fun w hs => ?_
   rw [Int.toNat_natCast, Int.toNat_natCast] at hs
   refine call166 (spec166 (lo := 0) (hi := i - 1) (o := a) hw hs om om ?_ fun d'' w h5 h6 hs => ?_)
   ·intro m m0 m1 m2
    have := h2 m m0 om (Nat.zero_le _)
    dsimp only at this |-
    rw [swp_o _ om om, swp_o _ om om]
    exact this
   ·have hroot := MaxH.root hw h2
    have hlast : d'' (a + (i - 1)) = d' a := by rw [h5.out om, swp_r]
    have hrest : ∀ y, a + i <= y -> y < b -> d'' y = d' y := fun y y1 y2 => by rw [h5.out om, swp_o _ om om]
    have hheap : ∀ x, x < i - 1 -> ∃ x', x' < i /\ d'' (a + x) = d' (a + x') := fun x hx => by
     obtain ⟨z, z1, z2, ez⟩ := h5.back (j := a + x) om om
     by_cases ea : z = a
     ·subst ea; exact ⟨i - 1, by omega, by rw [ez, swp_l]⟩
     ·exact ⟨z - a, by omega, by rw [ez, swp_o _ ea om]; congr 1; omega⟩
    refine ⟨i - 1, by omega, d'', i - 1, ?_, by omega, rfl, h1.trans ((SameI.swap d' om om om om).trans (h5.mono (Nat.le_refl _) om)), h6, ?_, ?_, hs⟩
    ·rw [wi64 om om]
    ·intro x y q1 q2 q3
     by_cases ex : x = a + (i - 1)
     ·subst ex
      rw [hlast, hrest y om q3]
      exact h4 0 y om om q3
     ·rw [hrest x om om, hrest y om q3]
      exact h3 x y om q2 q3
    ·intro x y q1 q2 q3
     obtain ⟨x', x1, ex⟩ := hheap x q1
     rw [ex]
     by_cases ey : y = a + (i - 1)
     ·subst ey; rw [hlast]; exact hroot x' x1
     ·rw [hrest y om q3]; exact h4 x' y x1 om q3
  ·have : i = 0 := by omega
   subst this
   exact k _ _ h1 h3 hs
theorem spec161 {d : Nat -> α} {a b : Nat} {R w} {K : Unit -> WP} (hs : Sat w (I.St d ++ R)) (hab : a < b) (hb : b <= I.n)
  (k : ∀ d' w', SameI a b d d' -> Sat w' (I.St d' ++ R) -> K () w') : F161 I.v a b K w := by
 have hn := I.small
 unfold F161
 rw [n1 om om]
 refine ⟨fun m (s : Int × Int) w => ∃ (d' : Nat -> α) (i j : Nat), s = ((i : Int), (j : Int)) /\ a <= i /\ j < b /\ i <= b /\ m = b - i /\ SameI a b d d' /\ Sat w (I.St d' ++ R), ⟨_, d, a, b - 1, rfl, by omega, by omega, by omega, rfl, SameI.refl _ _ _, hs⟩, ?_⟩
 clear hs
 rintro m s w ⟨d', i, j, rfl, hi, hj, hib, hm, h1, hs⟩
 refine ifd (fun hc => ?_) (fun hc => ?_)
 ·dsimp only at hc |-
  refine I.swap d' _ _ R w _ hs om om om om fun w hs => ?_
  rw [Int.toNat_natCast, Int.toNat_natCast] at hs
  rw [w1 om, n1 om om]
  exact ⟨b - (i + 1), by omega, _, i + 1, j - 1, rfl, by omega, by omega, by omega, rfl, h1.trans (SameI.swap d' om om om om), hs⟩
 ·exact k _ _ h1 hs
end
end Go.Proofs.YtpkoddfamelnhaaGreatDoor
