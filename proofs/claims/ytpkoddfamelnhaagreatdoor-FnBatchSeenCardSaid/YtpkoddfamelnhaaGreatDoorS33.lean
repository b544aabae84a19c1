/- Part 33 of the proof of fnBatchSeen_card. Conditions: none. -/
import Derived.Test.YtpkoddfamelnhaaGreatDoorS32
import Derived.Test.YtpkoddfamelnhaaGreatDoorRows
import Derived.WalkKit
import Derived.ProofKit
import Derived.LaidMore
import Derived.OpenShut
import Derived.ShutString
import Derived.ChangeOld
import Derived.Below
import Derived.Carry
import Derived.SizedLaws
import Derived.Stop.Joined
namespace Go.Proofs.YtpkoddfamelnhaaGreatDoor
open Go Go.Tr
set_option maxRecDepth 100000
def memD (W : World) : Hp := fun a => (W.cell? a).map fun v => (v, W.frozen? a)
theorem memD_sat (W : World) : Sat W [Own (memD W)] := by
 refine ⟨memD W, rfl, fun a v e => ?_, trivial⟩
 unfold memD at e
 cases h : W.cell? a with
 | none => rw [h] at e; cases e
 | some x =>
  rw [h] at e
  injection e with e
  subst e
  exact ⟨rfl, rfl, fun h => h⟩
theorem memD_at {W : World} {a : Addr} {v : Value} (h : W.cell? a = some v) : DAt (memD W) a v := ⟨W.frozen? a, by unfold memD; rw [h]; rfl⟩
theorem below_of {W w' : World} (h : Ext W w') (hs : Sat w' [Own (memD W)]) : Go.RowKit.Below W.heap.size W w' := by
 refine ⟨h.os, h.tape, h.output, h.size, fun k hk => ?_⟩
 obtain ⟨o, ho⟩ : ∃ o, W.heap[k]? = some o := ⟨_, Array.getElem?_eq_getElem hk⟩
 obtain ⟨o', ho', hl⟩ := h.block k o ho
 rw [ho, ho']
 congr 1
 cases o with
 | cells c t fr =>
  cases o' with
  | cells c' t' fr' =>
   obtain ⟨rfl, rfl, hsz⟩ := hl
   congr 1
   refine Array.ext hsz fun i h1 h2 => ?_
   have hc : W.cell? ⟨k, i, none⟩ = some c[i] := by
    unfold World.cell?
    dsimp only
    rw [ho]
    simp [h2]
   have := hs.dat .here (memD_at hc)
   unfold World.cell? at this
   dsimp only at this
   rw [ho'] at this
   simp [h1] at this
   exact this
  | _ => exact hl
 | _ =>
  cases o' <;> first | exact hl | exact hl.symm ▸ rfl
theorem mapM_range {α : Type} {f : Nat -> Option α} : ∀ {n : Nat} {cs : List α}, (List.range n).mapM f = some cs -> cs.length = n /\ ∀ i, i < n -> f i = cs[i]? := by
 intro n cs h
 have h1 := mapM_some_length h
 refine ⟨by simpa using h1, fun i hi => mapM_some_get h i i (by simp [hi])⟩
section
variable {H : Type} {enc : TypeId × Value → H} {W : World}
theorem cells_at {base : Nat} {a : Addr} {n : Nat} {cs : List Value} (h : W.cells? base a n = some cs) : cs.length = n /\ ∀ i x, cs[i]? = some x -> W.cell? (a.add i) = some x := by
 unfold World.cells? at h
 split at h
 ·obtain ⟨h1, h2⟩ := mapM_range h
  refine ⟨h1, fun i x e => ?_⟩
  have hi : i < n := by rw [<- h1]; exact (List.getElem?_eq_some_iff.1 e).1
  rw [h2 i hi]; exact e
 ·cases h
theorem cells69 : Tryz.prog.cellsOf 69 = 6 := by kernel_rfl
theorem cells1 : Tryz.prog.cellsOf 5 = 1 /\ Tryz.prog.cellsOf 9 = 1 /\ Tryz.prog.cellsOf 67 = 1 := ⟨by kernel_rfl, by kernel_rfl, by kernel_rfl⟩
theorem open_op {base : Nat} {sp : Nat -> Bool} {held : Bool} {n : Nat} {cs : List Value} {y : DataW H × List MemPlace} (h : DataW.trod enc Tryz.prog W base sp held n 69 cs = some y) : ∃ o : OpM, cs = oc o /\ o.size < 2^32 := by
 obtain ⟨xs, m, _, _, hl, hxl, hf⟩ := DataW.trod_struct Tryz.underlying69 h
 rw [cells69] at hl
 have hx : ∀ i, i < 6 -> ∃ x, xs[i]? = some x := fun i hi => ⟨_, List.getElem?_eq_getElem (by rw [hxl]; exact hi)⟩
 obtain ⟨c0, c1, c2, c3, c4, c5, rfl⟩ : ∃ c0 c1 c2 c3 c4 c5, cs = [c0, c1, c2, c3, c4, c5] := by
  match cs, hl with
  | [c0, c1, c2, c3, c4, c5], _ => exact ⟨c0, c1, c2, c3, c4, c5, rfl⟩
 obtain ⟨x0, e0⟩ := hx 0 (by omega)
 obtain ⟨x1, e1⟩ := hx 1 (by omega)
 obtain ⟨x2, e2⟩ := hx 2 (by omega)
 obtain ⟨x3, e3⟩ := hx 3 (by omega)
 obtain ⟨x4, e4⟩ := hx 4 (by omega)
 obtain ⟨x5, e5⟩ := hx 5 (by omega)
 have f0 : DataW.trod enc Tryz.prog W base sp held m 5 (([c0, c1, c2, c3, c4, c5].drop 0).take (Tryz.prog.cellsOf 5)) = some x0 := (hf 0 _ rfl).trans e0
 have f1 : DataW.trod enc Tryz.prog W base sp held m 9 (([c0, c1, c2, c3, c4, c5].drop 1).take (Tryz.prog.cellsOf 9)) = some x1 := (hf 1 _ rfl).trans e1
 have f2 : DataW.trod enc Tryz.prog W base sp held m 9 (([c0, c1, c2, c3, c4, c5].drop 2).take (Tryz.prog.cellsOf 9)) = some x2 := (hf 2 _ rfl).trans e2
 have f3 : DataW.trod enc Tryz.prog W base sp held m 9 (([c0, c1, c2, c3, c4, c5].drop 3).take (Tryz.prog.cellsOf 9)) = some x3 := (hf 3 _ rfl).trans e3
 have f4 : DataW.trod enc Tryz.prog W base sp held m 9 (([c0, c1, c2, c3, c4, c5].drop 4).take (Tryz.prog.cellsOf 9)) = some x4 := (hf 4 _ rfl).trans e4
 have f5 : DataW.trod enc Tryz.prog W base sp held m 67 (([c0, c1, c2, c3, c4, c5].drop 5).take (Tryz.prog.cellsOf 67)) = some x5 := (hf 5 _ rfl).trans e5
 rw [cells1.1] at f0
 rw [cells1.2.1] at f1 f2 f3 f4
 rw [cells1.2.2] at f5
 obtain ⟨n0, g0, _, w0⟩ := DataW.trod_int Tryz.underlying5 f0
 obtain ⟨s1, g1, _, _⟩ := DataW.trod_string Tryz.underlying9 f1
 obtain ⟨s2, g2, _, _⟩ := DataW.trod_string Tryz.underlying9 f2
 obtain ⟨s3, g3, _, _⟩ := DataW.trod_string Tryz.underlying9 f3
 obtain ⟨s4, g4, _, _⟩ := DataW.trod_string Tryz.underlying9 f4
 obtain ⟨n5, g5, _, w5⟩ := DataW.trod_int Tryz.underlying67 f5
 simp only [List.drop_zero, List.drop_succ_cons, List.take_succ_cons, List.take_zero, List.cons.injEq, and_true] at g0 g1 g2 g3 g4 g5
 subst g0 g1 g2 g3 g4 g5
 have r0 := (Go.bounds_u8 w0).1
 have r5 := Go.bounds_u32 w5
 refine ⟨⟨n0.toNat, s1, s2, s3, s4, n5.toNat⟩, ?_, by show n5.toNat < _; omega⟩
 unfold oc
 dsimp only
 rw [Int.toNat_of_nonneg r0, Int.toNat_of_nonneg r5.1]
theorem choose_list {α : Type} {n : Nat} {p : Nat -> α -> Prop} (h : ∀ i, i < n -> ∃ x, p i x) : ∃ l : List α, l.length = n /\ ∀ i x, l[i]? = some x -> p i x := by
 induction n with
 | zero => exact ⟨[], rfl, fun i x e => by simp at e⟩
 | succ n ih =>
  obtain ⟨l, h1, h2⟩ := ih fun i hi => h i (by omega)
  obtain ⟨x, hx⟩ := h n (by omega)
  refine ⟨l ++ [x], by simp [h1], fun i y e => ?_⟩
  by_cases hi : i < l.length
  ·rw [List.getElem?_append_left hi] at e; exact h2 i y e
  ·rw [List.getElem?_append_right (by omega)] at e
   have : i = n := by
    have := (List.getElem?_eq_some_iff.1 e).1
    simp at this; omega
   subst this
   rw [<- h1, Nat.sub_self] at e
   simp at e
   rw [<- e]; exact hx
theorem open_opsD {base : Nat} {sp : Nat -> Bool} {held : Bool} {n : Nat} {a : Option Addr} {m c : Nat} {y : DataW H × List MemPlace} (h : DataW.trod enc Tryz.prog W base sp held n 22 [.slice a m c] = some y) :
  ∃ l : List OpM, m = l.length /\ (∀ o ∈ l, o.size < 2^32) /\ ∀ (j : Nat) (o : OpM), l[j]? = some o -> ∃ e, a = some e /\ ∀ i x, (oc o)[i]? = some x -> W.cell? ((e.add (j * 6)).add i) = some x := by
 rcases DataW.trod_slice Tryz.underlying22 h with ⟨h0, _⟩ | ⟨e, len, cap, elems, rest, k, _, hcs, _, _, _, _, hlen, hel, _⟩
 ·simp only [List.cons.injEq, Value.slice.injEq, and_true] at h0
  obtain ⟨rfl, rfl, rfl⟩ := h0
  exact ⟨[], rfl, fun o ho => by simp at ho, fun j o e => by simp at e⟩
 ·simp only [List.cons.injEq, Value.slice.injEq, and_true] at hcs
  obtain ⟨rfl, rfl, rfl⟩ := hcs
  have hx : ∀ i, i < m -> ∃ o : OpM, o.size < 2^32 /\ ∀ k x, (oc o)[k]? = some x -> W.cell? ((e.add (i * 6)).add k) = some x := by
   intro i hi
   have h1 := hel i hi
   rw [cells69, List.getElem?_eq_getElem (by omega), Option.bind_eq_some_iff] at h1
   obtain ⟨cs, hc, ht⟩ := h1
   obtain ⟨o, rfl, ho⟩ := open_op ht
   exact ⟨o, ho, (cells_at hc).2⟩
  obtain ⟨l, h1, h2⟩ := choose_list hx
  refine ⟨l, h1.symm, fun o ho => ?_, fun j o e9 => ⟨e, rfl, (h2 j o e9).2⟩⟩
  obtain ⟨i, hi, e9⟩ := List.getElem_of_mem ho
  exact (h2 i o (by rw [List.getElem?_eq_getElem hi, e9])).1
end
theorem opsIn_of {W : World} {a : Option Addr} {m c : Nat} {l : List OpM} (hm : m = l.length) (h : ∀ (j : Nat) (o : OpM), l[j]? = some o -> ∃ e, a = some e /\ ∀ i x, (oc o)[i]? = some x -> W.cell? ((e.add (j * 6)).add i) = some x) : OpsIn [Own (memD W)] ⟨a, m, c⟩ l := by
 refine ⟨hm, fun w hs j o e => ?_⟩
 obtain ⟨e, he, hr⟩ := h j o e
 exact ⟨e, he, fun i x hx => hs.dat .here (memD_at (hr i x hx))⟩
open Go Go.Tr Go.ChangeShapes Go.WideShapes Go.ChangeAt Go.RowKit
open Go.ChangeMaps (open_string shut_string)
theorem own : ownKnob Tryz.prog.godebug = none := by kernel_rfl
theorem laidOut : laidOutB Tryz.prog = true := by kernel_rfl
abbrev laid3 : List (String × DataW Unit) := [("pub-tessella/pub/pebble/inner/base.ErrCorruption", Rows.laid_pub_tessella_pub_pebble_inner_base_ErrCorruption), ("pub-tessella/pub/pebble.ErrInvalidBatch", Rows.laid_pub_tessella_pub_pebble_ErrInvalidBatch), ("pub-tessella/pub/pebble.ErrBatchTooLarge", Rows.laid_pub_tessella_pub_pebble_ErrBatchTooLarge)]
theorem door_met (os : Os) (args : Array Value) : laidMetH Tryz.prog laid3 ((World.doorLaid Tryz.prog 400 os).forCall (fun _ _ => 0) ⟨#[], args, []⟩).memory :=
 laidMetH_of_parts3 (fuel := 8) (laidMet_of_run' 8 (by kernel_rfl) (by kernel_rfl)) (by kernel_rfl) (by kernel_rfl)
theorem seen_walk {W : World} {a : Option Addr} {n c : Nat} {l : List OpM} {kb : ByteArray} (hsz : ∀ o ∈ l, o.size < 2^32) (hops : OpsIn [Own (memD W)] ⟨a, n, c⟩ l) :
  Calls Tryz.prog 3 #[.slice a n c, .string kb] W fun e W' => e = .returned (.bool true) /\ Below W.heap.size W W' := by
 refine (ctrC (args := [.slice a n c, .string kb]) (R := [.one .bool]) (K := fun b W' => b = true /\ Sat W' [Own (memD W)]) Tryz.func3 A3 (by kernel_rfl) (by kernel_rfl : _ = F3 ⟨a, n, c⟩ kb (fun b W' => b = true /\ Sat W' [Own (memD W)]) W) (spec3 hsz hops (memD_sat W) fun w h => ⟨rfl, h⟩)).mono fun e W' h => ?_
 cases e with
 | returned v =>
  obtain ⟨x, rfl, ⟨rfl, hs⟩, he⟩ := h
  exact ⟨rfl, below_of he hs⟩
 | _ => exact h.elim
theorem seen_lifted (os : Os) (started : os.Started) (H : Type) (enc : TypeId × Value -> H) :
  ReturnsInHanded {} Tryz.checked os 3 .any (fun w args => (Rows.fnBatchSeenSpec.pre enc Tryz.prog Tryz.f3 [] false w args /\ laidMetH Tryz.prog laid3 w) /\ sizedMet enc Tryz.prog Tryz.f3 (OpenSpec.ofChange Rows.fnBatchSeenSpec) false w args)
   (Rows.fnBatchSeenSpec.post enc Tryz.prog Tryz.f3 false true false false) := by
 refine returnsInHanded_of_change_and (C := Tryz.checked) (X := fun w _ => laidMetH Tryz.prog laid3 w) (fun _ _ _ hh h => h.of_heap hh) own started (by kernel_rfl) Tryz.func3
  (ChangeSpec.witness_shaped (enc := enc) (C := Tryz.checked) (os := os) (X := fun w _ => laidMetH Tryz.prog laid3 w) false (World.doorLaid Tryz.prog 400 os) #[.slice none 0 0, .string ByteArray.empty] 8 rfl (World.shaped_of_RefB (by kernel_rfl) (by kernel_rfl)) (by kernel_rfl) (by kernel_rfl) (by kernel_rfl) (door_met os _)) ?_
 intro W base args ds gs before hval0 hW _ _ hL _
 have hval : ∀ (j : Nat) t v, Tryz.f3.params[j]? = some t -> args[j]? = some v -> Value.okWide Tryz.prog W .any base t v := hval0
 have hW' := hW
 obtain ⟨p, q, hA0, hV, rfl, hfz, hnd⟩ := hW
 have hA : DataW.TrodAll enc Tryz.prog W 0 (fun _ => true) true Tryz.f3.params.toList args.toList ds p := hA0
 rw [Tryz.params3] at hA hval
 obtain ⟨v0, vs0, d0, ds0, p0, q0, hargs, rfl, rfl, h0, r0⟩ := trodAll_cons hA
 obtain ⟨v1, vs1, d1, ds1, p1, q1, rfl, rfl, rfl, h1, r1⟩ := trodAll_cons r0
 obtain ⟨rfl, rfl, rfl⟩ := trodAll_nil r1
 obtain rfl : args = #[v0, v1] := by cases args; simp_all
 obtain ⟨rfl, rfl⟩ := trodVars_none hV
 obtain ⟨a, n, c, rfl⟩ := okWide_slice Tryz.underlying22 (hval 0 22 v0 rfl rfl)
 obtain ⟨kb, rfl, rfl, rfl, hkb⟩ := open_string Tryz.underlying9 (hval 1 9 v1 rfl rfl) h1
 have k0 := h0
 have lt0 : ∀ x ∈ p0, x.block < W.heap.size := by
  obtain ⟨m, hm⟩ := k0
  exact DataW.trod_lt m _ _ _ hm
 obtain ⟨fuel, hf⟩ := h0
 obtain ⟨l, hn, hsz, hcl⟩ := open_opsD hf
 clear hA0 hval0
 refine (seen_walk hsz (opsIn_of hn hcl)).mono fun e W' ⟨he, bel⟩ => ?_
 subst he
 exact ⟨_, rfl, _, _, _, [], _, [], hW', trodAll_mk1 (shut_bool Tryz.underlying4 _), trodAll_cons_mk (Below.trod laidOut (by kernel_rfl) (of_decide_eq_true (by kernel_rfl)) k0 bel lt0) (trodAll_cons_mk (shut_string Tryz.underlying9 hkb) trodAll_mk0), rfl, bel.frame _, fun h => by cases h⟩
end Go.Proofs.YtpkoddfamelnhaaGreatDoor
