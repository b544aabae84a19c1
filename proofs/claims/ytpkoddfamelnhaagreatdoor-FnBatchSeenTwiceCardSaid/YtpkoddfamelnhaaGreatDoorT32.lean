/- Part 32 of the proof of fnBatchSeenTwice_card. Conditions: none. -/
import Derived.Test.YtpkoddfamelnhaaGreatDoorT31
import Derived.Test.YtpkoddfamelnhaaGreatDoorRows
import Derived.WalkKit
import Derived.ProofKit
import Derived.LaidMore
import Derived.OpenShut
import Derived.ShutString
import Derived.ChangeOld
import Derived.Below
import Derived.Carry
import Derived.SizedLaws
import Derived.Stop.Joined
set_option linter.unusedVariables false
set_option linter.unusedSimpArgs false
namespace Go.Proofs.YtpkoddfamelnhaaGreatDoor
open Go Go.Tr
set_option maxRecDepth 100000
def memD (W : World) : Hp := fun a => (W.cell? a).map fun v => (v, W.frozen? a)
theorem memD_sat (W : World) : Sat W [Own (memD W)] := by
 refine ⟨memD W, rfl, fun a v e => ?_, trivial⟩
 unfold memD at e
 cases h : W.cell? a with
 | none => rw [h] at e; cases e
 | some x =>
  rw [h] at e
  injection e with e
  subst e
  exact ⟨rfl, rfl, fun h => h⟩
theorem memD_at {W : World} {a : Addr} {v : Value} (h : W.cell? a = some v) : DAt (memD W) a v := ⟨W.frozen? a, by unfold memD; rw [h]; rfl⟩
theorem below_of {W w' : World} (h : Ext W w') (hs : Sat w' [Own (memD W)]) : Go.RowKit.Below W.heap.size W w' := by
 refine ⟨h.os, h.tape, h.output, h.size, fun k hk => ?_⟩
 obtain ⟨o, ho⟩ : ∃ o, W.heap[k]? = some o := ⟨_, Array.getElem?_eq_getElem hk⟩
 obtain ⟨o', ho', hl⟩ := h.block k o ho
 rw [ho, ho']
 congr 1
 cases o with
 | cells c t fr =>
  cases o' with
  | cells c' t' fr' =>
   obtain ⟨rfl, rfl, hsz⟩ := hl
   congr 1
   refine Array.ext hsz fun i h1 h2 => ?_
   have hc : W.cell? ⟨k, i, none⟩ = some c[i] := by
    unfold World.cell?
    dsimp only
    rw [ho]
    simp [h2]
   have := hs.dat .here (memD_at hc)
   unfold World.cell? at this
   dsimp only at this
   rw [ho'] at this
   simp [h1] at this
   exact this
  | _ => exact hl
 | _ =>
  cases o' <;> first | exact hl | exact hl.symm ▸ rfl
theorem mapM_range {α : Type} {f : Nat -> Option α} : ∀ {n : Nat} {cs : List α}, (List.range n).mapM f = some cs -> cs.length = n /\ ∀ i, i < n -> f i = cs[i]? := by
 intro n cs h
 have h1 := mapM_some_length h
 refine ⟨by simpa using h1, fun i hi => mapM_some_get h i i (by simp [hi])⟩
section
variable {H : Type} {enc : TypeId × Value → H} {W : World}
theorem cells_at {base : Nat} {a : Addr} {n : Nat} {cs : List Value} (h : W.cells? base a n = some cs) : cs.length = n /\ ∀ i x, cs[i]? = some x -> W.cell? (a.add i) = some x := by
 unfold World.cells? at h
 split at h
 ·obtain ⟨h1, h2⟩ := mapM_range h
  refine ⟨h1, fun i x e => ?_⟩
  have hi : i < n := by rw [<- h1]; exact (List.getElem?_eq_some_iff.1 e).1
  rw [h2 i hi]; exact e
 ·cases h
theorem cells69 : Tryz.prog.cellsOf 69 = 6 := by kernel_rfl
theorem cells1 : Tryz.prog.cellsOf 5 = 1 /\ Tryz.prog.cellsOf 9 = 1 /\ Tryz.prog.cellsOf 67 = 1 := ⟨by kernel_rfl, by kernel_rfl, by kernel_rfl⟩
theorem open_op {base : Nat} {sp : Nat -> Bool} {held : Bool} {n : Nat} {cs : List Value} {y : DataW H × List MemPlace} (h : DataW.trod enc Tryz.prog W base sp held n 69 cs = some y) : ∃ o : OpM, cs = oc o /\ o.size < 2^32 := by
 obtain ⟨xs, m, _, _, hl, hxl, hf⟩ := DataW.trod_struct Tryz.underlying69 h
 rw [cells69] at hl
 have hx : ∀ i, i < 6 -> ∃ x, xs[i]? = some x := fun i hi => ⟨_, List.getElem?_eq_getElem (by rw [hxl]; exact hi)⟩
 obtain ⟨c0, c1, c2, c3, c4, c5, rfl⟩ : ∃ c0 c1 c2 c3 c4 c5, cs = [c0, c1, c2, c3, c4, c5] := by
  match cs, hl with
  | [c0, c1, c2, c3, c4, c5], _ => exact ⟨c0, c1, c2, c3, c4, c5, rfl⟩
 obtain ⟨x0, e0⟩ := hx 0 om
 obtain ⟨x1, e1⟩ := hx 1 om
 obtain ⟨x2, e2⟩ := hx 2 om
 obtain ⟨x3, e3⟩ := hx 3 om
 obtain ⟨x4, e4⟩ := hx 4 om
 obtain ⟨x5, e5⟩ := hx 5 om
 have f0 : DataW.trod enc Tryz.prog W base sp held m 5 (([c0, c1, c2, c3, c4, c5].drop 0).take (Tryz.prog.cellsOf 5)) = some x0 := (hf 0 _ rfl).trans e0
 have f1 : DataW.trod enc Tryz.prog W base sp held m 9 (([c0, c1, c2, c3, c4, c5].drop 1).take (Tryz.prog.cellsOf 9)) = some x1 := (hf 1 _ rfl).trans e1
 have f2 : DataW.trod enc Tryz.prog W base sp held m 9 (([c0, c1, c2, c3, c4, c5].drop 2).take (Tryz.prog.cellsOf 9)) = some x2 := (hf 2 _ rfl).trans e2
 have f3 : DataW.trod enc Tryz.prog W base sp held m 9 (([c0, c1, c2, c3, c4, c5].drop 3).take (Tryz.prog.cellsOf 9)) = some x3 := (hf 3 _ rfl).trans e3
 have f4 : DataW.trod enc Tryz.prog W base sp held m 9 (([c0, c1, c2, c3, c4, c5].drop 4).take (Tryz.prog.cellsOf 9)) = some x4 := (hf 4 _ rfl).trans e4
 have f5 : DataW.trod enc Tryz.prog W base sp held m 67 (([c0, c1, c2, c3, c4, c5].drop 5).take (Tryz.prog.cellsOf 67)) = some x5 := (hf 5 _ rfl).trans e5
 rw [cells1.1] at f0
 rw [cells1.2.1] at f1 f2 f3 f4
 rw [cells1.2.2] at f5
 obtain ⟨n0, g0, _, w0⟩ := DataW.trod_int Tryz.underlying5 f0
 obtain ⟨s1, g1, _, _⟩ := DataW.trod_string Tryz.underlying9 f1
 obtain ⟨s2, g2, _, _⟩ := DataW.trod_string Tryz.underlying9 f2
 obtain ⟨s3, g3, _, _⟩ := DataW.trod_string Tryz.underlying9 f3
 obtain ⟨s4, g4, _, _⟩ := DataW.trod_string Tryz.underlying9 f4
 obtain ⟨n5, g5, _, w5⟩ := DataW.trod_int Tryz.underlying67 f5
 simp only [List.drop_zero, List.drop_succ_cons, List.take_succ_cons, List.take_zero, List.cons.injEq, and_true] at g0 g1 g2 g3 g4 g5
 subst g0 g1 g2 g3 g4 g5
 have r0 := (Go.bounds_u8 w0).1
 have r5 := Go.bounds_u32 w5
 refine ⟨⟨n0.toNat, s1, s2, s3, s4, n5.toNat⟩, ?_, by show n5.toNat < _; omega⟩
 unfold oc
 dsimp only
 rw [Int.toNat_of_nonneg r0, Int.toNat_of_nonneg r5.1]
theorem choose_list {α : Type} {n : Nat} {p : Nat -> α -> Prop} (h : ∀ i, i < n -> ∃ x, p i x) : ∃ l : List α, l.length = n /\ ∀ i x, l[i]? = some x -> p i x := by
 induction n with
 | zero => exact ⟨[], rfl, fun i x e => by simp at e⟩
 | succ n ih =>
  obtain ⟨l, h1, h2⟩ := ih fun i hi => h i om
  obtain ⟨x, hx⟩ := h n om
  refine ⟨l ++ [x], by simp [h1], fun i y e => ?_⟩
  by_cases hi : i < l.length
  ·rw [List.getElem?_append_left hi] at e; exact h2 i y e
  ·rw [List.getElem?_append_right om] at e
   have : i = n := by
    have := (List.getElem?_eq_some_iff.1 e).1
    simp at this; omega
   subst this
   rw [<- h1, Nat.sub_self] at e
   simp at e
   rw [<- e]; exact hx
theorem open_opsD {base : Nat} {sp : Nat -> Bool} {held : Bool} {n : Nat} {a : Option Addr} {m c : Nat} {y : DataW H × List MemPlace} (h : DataW.trod enc Tryz.prog W base sp held n 22 [.slice a m c] = some y) :
  ∃ l : List OpM, m = l.length /\ (∀ o ∈ l, o.size < 2^32) /\ ∀ (j : Nat) (o : OpM), l[j]? = some o -> ∃ e, a = some e /\ ∀ i x, (oc o)[i]? = some x -> W.cell? ((e.add (j * 6)).add i) = some x := by
 rcases DataW.trod_slice Tryz.underlying22 h with ⟨h0, _⟩ | ⟨e, len, cap, elems, rest, k, _, hcs, _, _, _, _, hlen, hel, _⟩
 ·simp only [List.cons.injEq, Value.slice.injEq, and_true] at h0
  obtain ⟨rfl, rfl, rfl⟩ := h0
  exact ⟨[], rfl, fun o ho => by simp at ho, fun j o e => by simp at e⟩
 ·simp only [List.cons.injEq, Value.slice.injEq, and_true] at hcs
  obtain ⟨rfl, rfl, rfl⟩ := hcs
  have hx : ∀ i, i < m -> ∃ o : OpM, o.size < 2^32 /\ ∀ k x, (oc o)[k]? = some x -> W.cell? ((e.add (i * 6)).add k) = some x := by
   intro i hi
   have h1 := hel i hi
   rw [cells69, List.getElem?_eq_getElem om, Option.bind_eq_some_iff] at h1
   obtain ⟨cs, hc, ht⟩ := h1
   obtain ⟨o, rfl, ho⟩ := open_op ht
   exact ⟨o, ho, (cells_at hc).2⟩
  obtain ⟨l, h1, h2⟩ := choose_list hx
  refine ⟨l, h1.symm, fun o ho => ?_, fun j o e9 => ⟨e, rfl, (h2 j o e9).2⟩⟩
  obtain ⟨i, hi, e9⟩ := List.getElem_of_mem ho
  exact (h2 i o (by rw [List.getElem?_eq_getElem hi, e9])).1
end
theorem opsIn_of {W : World} {a : Option Addr} {m c : Nat} {l : List OpM} (hm : m = l.length) (h : ∀ (j : Nat) (o : OpM), l[j]? = some o -> ∃ e, a = some e /\ ∀ i x, (oc o)[i]? = some x -> W.cell? ((e.add (j * 6)).add i) = some x) : OpsIn [Own (memD W)] ⟨a, m, c⟩ l := by
 refine ⟨hm, fun w hs j o e => ?_⟩
 obtain ⟨e, he, hr⟩ := h j o e
 exact ⟨e, he, fun i x hx => hs.dat .here (memD_at (hr i x hx))⟩
open Go Go.Tr Go.ChangeShapes Go.WideShapes Go.ChangeAt Go.RowKit
theorem own : ownKnob Tryz.prog.godebug = none := by kernel_rfl
theorem laidOut : laidOutB Tryz.prog = true := by kernel_rfl
abbrev laid3 : List (String × DataW Unit) := [("pub-tessella/pub/pebble/inner/base.ErrCorruption", Rows.laid_pub_tessella_pub_pebble_inner_base_ErrCorruption), ("pub-tessella/pub/pebble.ErrInvalidBatch", Rows.laid_pub_tessella_pub_pebble_ErrInvalidBatch), ("pub-tessella/pub/pebble.ErrBatchTooLarge", Rows.laid_pub_tessella_pub_pebble_ErrBatchTooLarge)]
theorem door_met (os : Os) (args : Array Value) : laidMetH Tryz.prog laid3 ((World.doorLaid Tryz.prog 400 os).forCall (fun _ _ => 0) ⟨#[], args, []⟩).memory :=
 laidMetH_of_parts3 (fuel := 8) (laidMet_of_run' 8 (by kernel_rfl) (by kernel_rfl)) (by kernel_rfl) (by kernel_rfl)
theorem flat_set1 {α : Type} {f : α -> List Value} {k : Nat} (hf : ∀ x, (f x).length = k) : ∀ (l : List α) (j i : Nat) (x y : α) (v : Value), l[j]? = some x -> i < k -> f y = (f x).set i v -> (l.flatMap f).set (j * k + i) v = (l.set j y).flatMap f
 | [], j, _, _, _, _, h, _, _ => by simp at h
 | z :: l, 0, i, x, y, v, h, hi, hy => by
  simp only [List.getElem?_cons_zero, Option.some.injEq] at h
  subst h
  rw [List.set_cons_zero, List.flatMap_cons, List.flatMap_cons, Nat.zero_mul, Nat.zero_add, List.set_append_left _ _ (by rw [hf]; exact hi), hy]
 | z :: l, j + 1, i, x, y, v, h, hi, hy => by
  have ih := flat_set1 hf l j i x y v (by simpa using h) hi hy
  rw [List.set_cons_succ, List.flatMap_cons, List.flatMap_cons, <- ih]
  have e1 : (j + 1) * k + i = (f z).length + (j * k + i) := by rw [hf, Nat.add_mul]; omega
  rw [e1, List.set_append_right _ _ om]
  congr 2
  omega
theorem bufSt1 {k : Nat} {d : Sl} {cs : List Value} {v : Value} {a : Addr} {o : Nat} {L w w1} {K : WP} (h : Sat w (Buf k d cs :: L)) [Near w w1] (ha : d.a = some a) (hl : o < cs.length) (h1 : v.oneCell' = true)
  (c : ∀ w', Sat w' (Buf k d (cs.set o v) :: L) -> K w') : St (a.add o) v K w1 := by
 replace h := h.near (w' := w1)
 obtain ⟨g, hg, hr⟩ := h
 unfold Buf at hg
 rw [ha] at hg
 obtain ⟨e1, sp, e2, hA⟩ := hg
 have h2 : Sat w1 (Arr a (cs ++ sp) :: L) := ⟨g, hA, hr⟩
 have hat := at_arr (p := a) (vs := cs ++ sp) (k := o) (v := cs[o]) (by rw [List.getElem?_append_left hl]; exact List.getElem?_eq_getElem hl)
 refine ⟨h1, ⟨_, (h2.get hat).1⟩, (h2.get hat).2, c _ ((h2.set hat v).cons fun g' hg' => ?_)⟩
 unfold Buf
 rw [ha]
 rw [List.set_append_left _ _ hl] at hg'
 exact ⟨by rw [List.length_set]; exact e1, sp, by rw [List.length_set]; exact e2, hg'⟩
theorem psp_len {out : Sl} {ps : List PlM} {L w} (h : Sat w (PSp out ps :: L)) : out.n = ps.length := (pspOpen h).1
theorem pspKey {out : Sl} {ps : List PlM} {i j : Nat} {x : PlM} {m : KeyM} {L w w1} (h : Sat w (PSp out ps :: L)) [Near w w1] (hx : ps[i]? = some x) (hm : x.keys[j]? = some m) :
  ∃ a, x.kx.a = some a /\ RdL w1 (a.add (j * 3)) (pkc m) /\ ∀ (v : Int) (K : WP), (∀ w', Sat w' (PSp out (ps.set i { x with keys := x.keys.set j { m with tr := v } }) :: L) -> K w') -> St ((a.add (j * 3)).add 0) (.int .u64 v) K w1 := by
 replace h := h.near (w' := w1)
 obtain ⟨h1, h2, h3⟩ := pspOpen h
 have hi : i < ps.length := (List.getElem?_eq_some_iff.1 hx).1
 have hg : ps.getD i pld = x := by rw [List.getD_eq_getElem?_getD, hx]; rfl
 have h4 := (h3.mv 1).fam_out hi
 have e4 : plF ps i = Buf 3 x.kx (x.keys.flatMap pkc) := by unfold plF; rw [hg]
 rw [e4] at h4
 obtain ⟨a, ha, hr⟩ := rowBuf (f := pkc) (k := 3) (fun _ => rfl) (by decide) h4 .here hm
 refine ⟨a, ha, hr, fun v K c => ?_⟩
 rw [Addr.add_add]
 have hj : j < x.keys.length := (List.getElem?_eq_some_iff.1 hm).1
 have hl : (x.keys.flatMap pkc).length = x.keys.length * 3 := flat_len_k (f := pkc) (k := 3) (fun _ => rfl) _
 refine bufSt1 h4 ha (by rw [hl]; omega) rfl fun w' h => c w' ?_
 rw [flat_set1 (f := pkc) (k := 3) (fun _ => rfl) x.keys j 0 m { m with tr := v } (.int .u64 v) hm (by decide) rfl] at h
 have hl2 : (ps.set i { x with keys := x.keys.set j { m with tr := v } }).length = ps.length := List.length_set
 refine pspShut (by rw [hl2]; exact h1) (fun y hy => ?_) ?_
 ·rcases List.mem_or_eq_of_mem_set hy with hy | rfl
  ·exact h2 y hy
  ·show x.kx.n = _
   rw [List.length_set]
   exact h2 x (List.mem_of_getElem? hx)
 ·have e5 : (ps.set i { x with keys := x.keys.set j { m with tr := v } }).flatMap plc = ps.flatMap plc := by
   have : ∀ (l : List PlM) (i : Nat), l[i]? = some x -> (l.set i { x with keys := x.keys.set j { m with tr := v } }).flatMap plc = l.flatMap plc := by
    intro l
    induction l with
    | nil => intro i h; simp at h
    | cons z l ih =>
     intro i h
     cases i with
     | zero =>
      simp only [List.getElem?_cons_zero, Option.some.injEq] at h
      subst h; rfl
     | succ i => rw [List.set_cons_succ, List.flatMap_cons, List.flatMap_cons, ih i (by simpa using h)]
   exact this ps i hx
  rw [e5, hl2]
  have e6 : Fam ps.length (plF (ps.set i { x with keys := x.keys.set j { m with tr := v } })) = Fam ps.length (upd (plF ps) i (Buf 3 x.kx ((x.keys.set j { m with tr := v }).flatMap pkc))) := by
   refine Fam.congr fun q hq => ?_
   by_cases e : q = i
   ·subst e
    rw [upd_same]
    unfold plF
    rw [List.getD_eq_getElem?_getD, List.getElem?_set_self hi]; rfl
   ·rw [upd_other e]
    unfold plF
    rw [List.getD_eq_getElem?_getD, List.getElem?_set_ne (Ne.symm e), <- List.getD_eq_getElem?_getD]
  rw [e6]
  exact (h.fam_in hi).mv 1
def bareK (m : KeyM) : KeyM := ⟨0, m.suf, m.val⟩
def bareS (s : SpanM) : SpanM := ⟨s.lo, s.hi, s.keys.map bareK⟩
set_option maxHeartbeats 2000000 in
theorem spec39 {l : Sl} {ys : Nat -> Sl} {ss : List SpanM} {R w} {K : Sl -> WP} (hrd : ∀ w, Sat w R -> PSpansRd w l ys ss) (hlen : ss.length < 2^32) (hkn : ∀ s ∈ ss, s.keys.length < 2^32) (h : Sat w R)
  (k : ∀ out ps w', ps.map PlM.sp = ss.map bareS -> Sat w' (PSp out ps :: R) -> K out w') : F39 l K w := by
 unfold F39
 have hn : l.n = ss.length := (hrd w h).1
 refine ⟨fun m (z : Sl × Int) w => ∃ (j : Nat) (ps : List PlM), z.2 = (j : Int) /\ j <= ss.length /\ m = ss.length - j /\ ps.map PlM.sp = (ss.take j).map bareS /\ Sat w (PSp z.1 ps :: R), ⟨_, 0, [], rfl, Nat.zero_le _, rfl, rfl, pspNil h⟩, ?_⟩
 clear h
 rintro m ⟨out, z⟩ w ⟨j, ps, e, hj, hm, hps, h⟩
 dsimp only at e h |-
 subst e
 refine ifd (fun hlt => ?_) (fun hge => ?_)
 ·have hjl : j < ss.length := by omega
  obtain ⟨e, he, hr, hy⟩ := (hrd w h.tail).2 j hjl
  have hy' : ∀ w, Sat w R -> PKeysRd w (ys j) (ss[j]).keys := fun w h => by
   obtain ⟨_, _, _, h2⟩ := (hrd w h).2 j hjl
   exact h2
  have hks := hkn _ (List.getElem_mem hjl)
  have htk : ss.take (j + 1) = ss.take j ++ [ss[j]] := by rw [List.take_add_one, List.getElem?_eq_getElem hjl]; rfl
  generalize ss[j] = s at hr hy' hks htk
  have hpl : ps.length = j := by
   have := congrArg List.length hps
   rw [List.length_map, List.length_map, List.length_take] at this
   omega
  rw [w1 om, Int.toNat_natCast]
  refine ⟨⟨by omega, hlt⟩, e, he, LdR hr (NewP_run h fun n6 w h => StL_of (St1 h rfl fun w h => St1 h rfl fun w h => St1 h rfl fun w h => Ld1 h (Ld1 h (NewP_run h fun n9 w h => StL_of (St1 h rfl fun w h => St1 h rfl fun w h => St1 h rfl fun w h => Ld1 h ?_)))))⟩
  have hyn := (hy' w h.tail.tail.tail).1
  refine ⟨fun m (z : Int) w => ∃ (i : Nat) (kx : Sl), z = (i : Int) /\ i <= s.keys.length /\ m = s.keys.length - i /\ kx.n = i /\ Sat w (Arr n9 [.string s.lo, .string s.hi, .slice kx.a kx.n kx.c] :: Buf 3 kx (((s.keys.take i).map bareK).flatMap pkc) :: Arr n6 [.string s.lo, .string s.hi, .slice (ys j).a (ys j).n (ys j).c] :: PSp out ps :: R), ⟨_, 0, nl, rfl, Nat.zero_le _, rfl, rfl, (h.bufNil 3).mv 1⟩, ?_⟩
  clear h
  rintro m' z w ⟨i, kx, rfl, hi, hm', hkn', h⟩
  refine ifd (fun hlt2 => ?_) (fun hge2 => ?_)
  ·dsimp only at hlt2
   have hil : i < s.keys.length := by omega
   obtain ⟨e2, he2, hr2⟩ := (hy' w h.tail.tail.tail.tail).2 i hil
   have htk2 : s.keys.take (i + 1) = s.keys.take i ++ [s.keys[i]] := by rw [List.take_add_one, List.getElem?_eq_getElem hil]; rfl
   generalize s.keys[i] = q at hr2 htk2
   rw [w1 om, Int.toNat_natCast]
   refine ⟨⟨by omega, hlt2⟩, e2, he2, LdR hr2 (NewP_run h fun a7 w h => StL_of (St1 h rfl fun w h => St1 h rfl fun w h => St1 h rfl fun w h => Ld1 h (Ld1 h (Ld1 h (NewS_run h fun p w h => ?_)))))⟩
   refine App1 (k := 3) rfl h .k3 .here rfl (pkc_one (bareK q)) ?_ (by dsimp only; omega) fun r w er ea h => ?_
   ·show (2 * (kx.n + 1) + 1024) * 40 <= _
    omega
   dsimp only at er
   refine St1 h rfl fun w h => ⟨_, ?_, i + 1, r, rfl, hil, rfl, by omega, ?_⟩
   ·omega
   ·rw [htk2, List.map_append, List.flatMap_append]
    have e9 : ([q].map bareK).flatMap pkc = pkc (bareK q) := by simp
    rw [e9]
    exact ((((h.mv 1).tail.mv 1).tail.mv 0).mv 1)
  ·dsimp only at hge2
   have hil : i = s.keys.length := by omega
   subst hil
   rw [List.take_length] at h
   refine LdN h (NewS_run h fun p w h => ?_)
   obtain ⟨a1, a2, h2⟩ := pspOpen (h.mv 4)
   refine App1 (k := 3) rfl h2 .here .k2 rfl (plc_one ⟨s.lo, s.hi, kx, s.keys.map bareK⟩) ?_ om fun r w er ea h => ?_
   ·show (2 * (out.n + 1) + 1024) * 56 <= _
    omega
   have h3 := pspSnoc (ps := ps) (x := ⟨s.lo, s.hi, kx, s.keys.map bareK⟩) (r := r) om a2 (by rw [List.length_map]; exact hkn') ((((((h.mv 2).tail.mv 2).tail.mv 3).tail.mv 1).mv 2).mv 2)
   refine ⟨_, ?_, j + 1, ps ++ [⟨s.lo, s.hi, kx, s.keys.map bareK⟩], rfl, hjl, rfl, by rw [List.map_append, hps, htk, List.map_append]; rfl, h3⟩
   omega
 ·have : j = ss.length := by omega
  subst this
  rw [List.take_length] at hps
  exact k out ps w hps h
theorem spec67 {a b : Sl} {ks : List KeyM} {R w} {K : Bool -> WP} (ha : ∀ w, Sat w R -> PKeysRd w a ks) (hb : ∀ w, Sat w R -> PKeysRd w b ks) (hlen : ks.length < 2^32) (h : Sat w R) (k : ∀ w', Sat w' R -> K true w') : F67 a b K w := by
 unfold F67
 have hna := (ha w h).1
 have hnb := (hb w h).1
 refine ifne' om ?_
 refine ⟨fun m (z : Int) w => ∃ j : Nat, z = (j : Int) /\ j <= ks.length /\ m = ks.length - j /\ Sat w R, ⟨_, 0, rfl, Nat.zero_le _, rfl, h⟩, ?_⟩
 clear h
 rintro m z w ⟨j, rfl, hj, hm, h⟩
 refine ifd (fun hlt => ?_) (fun hge => k _ h)
 have hjl : j < ks.length := by omega
 obtain ⟨e, he, hr⟩ := (ha w h).2 j hjl
 rw [w1 om, Int.toNat_natCast]
 refine ⟨⟨by omega, hlt⟩, e, he, LdR hr (NewP_run h fun n w h => StL_of (St1 h rfl fun w h => St1 h rfl fun w h => St1 h rfl fun w h => ?_))⟩
 simp only [StC]
 refine LdN h ⟨⟨by omega, by omega⟩, ?_⟩
 obtain ⟨e2, he2, hr2⟩ := (hb _ (h.near (w' := w.drew)).tail).2 j hjl
 refine ⟨e2, he2, LdR hr2 ?_⟩
 refine ifn (fun hh => ?_) (fun _ => ⟨_, ?_, j + 1, rfl, hjl, rfl, h.tail.near⟩)
 ·rw [toList_beq, toList_beq, decide_eq_true rfl, decide_eq_true rfl] at hh
  simp at hh
 ·omega
theorem spec38 {lo hi : ByteArray} {a b : Sl} {ks : List KeyM} {R w} {K : Bool -> WP} (ha : ∀ w, Sat w R -> PKeysRd w a ks) (hb : ∀ w, Sat w R -> PKeysRd w b ks) (hlen : ks.length < 2^32) (h : Sat w R) (k : ∀ w', Sat w' R -> K true w') : F38 (lo, hi, a) (lo, hi, b) K w := by
 unfold F38
 refine NewP_run h fun n3 w h => NewP_run h fun n4 w h => Ld1 h (Ld1 h ?_)
 rw [toList_beq, decide_eq_true rfl]
 refine ift rfl (Ld1 h (Ld1 h ?_))
 rw [toList_beq, decide_eq_true rfl]
 exact ift rfl (Ld1 h (Ld1 h (call67 (spec67 (R := Arr n4 _ :: Arr n3 _ :: R) (fun w h => ha w h.tail.tail) (fun w h => hb w h.tail.tail) hlen h fun w h => k w h.tail.tail))))
theorem spec15 {a b : Sl} {xs ys : Nat -> Sl} {ss : List SpanM} {R w} {K : Bool -> WP} (ha : ∀ w, Sat w R -> PSpansRd w a xs ss) (hb : ∀ w, Sat w R -> PSpansRd w b ys ss) (hlen : ss.length < 2^32) (hkn : ∀ s ∈ ss, s.keys.length < 2^32) (h : Sat w R) (k : ∀ w', Sat w' R -> K true w') : F15 a b K w := by
 unfold F15
 have hna := (ha w h).1
 have hnb := (hb w h).1
 refine ifne' om ?_
 refine ⟨fun m (z : Int) w => ∃ j : Nat, z = (j : Int) /\ j <= ss.length /\ m = ss.length - j /\ Sat w R, ⟨_, 0, rfl, Nat.zero_le _, rfl, h⟩, ?_⟩
 clear h
 rintro m z w ⟨j, rfl, hj, hm, h⟩
 refine ifd (fun hlt => ?_) (fun hge => k _ h)
 have hjl : j < ss.length := by omega
 obtain ⟨e, he, hr, _⟩ := (ha w h).2 j hjl
 have hka : ∀ w, Sat w R -> PKeysRd w (xs j) (ss[j]).keys := fun w h => by
  obtain ⟨_, _, _, h2⟩ := (ha w h).2 j hjl
  exact h2
 have hkb : ∀ w, Sat w R -> PKeysRd w (ys j) (ss[j]).keys := fun w h => by
  obtain ⟨_, _, _, h2⟩ := (hb w h).2 j hjl
  exact h2
 rw [w1 om, Int.toNat_natCast]
 refine ⟨⟨by omega, hlt⟩, e, he, LdR hr (NewP_run h fun n w h => StL_of (St1 h rfl fun w h => St1 h rfl fun w h => St1 h rfl fun w h => ?_))⟩
 simp only [StC]
 refine LdN h ⟨⟨by omega, by omega⟩, ?_⟩
 obtain ⟨e2, he2, hr2, _⟩ := (hb _ (h.near (w' := w.drew)).tail).2 j hjl
 refine ⟨e2, he2, LdR hr2 ?_⟩
 refine call38 (a1 := ((ss[j]).lo, (ss[j]).hi, xs j)) (b2 := ((ss[j]).lo, (ss[j]).hi, ys j)) (spec38 hka hkb (hkn _ (List.getElem_mem hjl)) h.tail.near fun w h => ?_)
 refine ifn (fun hh => nomatch hh) (fun _ => ⟨_, ?_, j + 1, rfl, hjl, rfl, h⟩)
 omega
def mk0 (p : SV) : KeyM := ⟨0, p.1, p.2⟩
def batS (g : List SV) : List SpanM := if g = [] then [] else [⟨.empty, .empty, g.map mk0⟩]
theorem ifneF {a b : Int} {A B : Prop} (e : a = b) (y : A) : if (a != b) = false then A else B := by rw [if_pos (by simpa using e)]; exact y
set_option maxHeartbeats 2000000 in
theorem spec16 {out kx : Sl} {okk : Bool} {lo hi kb : ByteArray} {ks : List KeyM} {R w} {K : Sl -> WP} (hkx : kx.n = ks.length) (hl : ks.length < 2^32) (ho : out.n = 1)
  (h : Sat w (Buf 5 out [.bool true, .bool okk, .string lo, .string hi, .slice kx.a kx.n kx.c] :: Buf 3 kx (ks.flatMap pkc) :: R)) (hks : okk = false -> ks = []) (k : ∀ r ps w', ps.map PlM.sp = batS (gotOf okk lo hi kb ks) -> Sat w' (PSp r ps :: R) -> K r w') : F16 out kb K w := by
 unfold F16
 have rowR : ∀ {w : World} {e : Addr}, RdL w e [.bool true, .bool okk, .string lo, .string hi, .slice kx.a kx.n kx.c] -> RdL w ((e.add (0 * 5)).add 2) [.string lo, .string hi, .slice kx.a kx.n kx.c] := fun {w e} hr i v hv => by
  have := hr (2 + i) v (by rw [Nat.add_comm]; exact hv)
  rwa [show (e.add (0 * 5)) = e from rfl, Addr.add_add]
 refine ⟨fun _ w => (okk = true /\ bcmp lo kb <= 0 /\ bcmp kb hi < 0) /\ Sat w (Buf 5 out [.bool true, .bool okk, .string lo, .string hi, .slice kx.a kx.n kx.c] :: Buf 3 kx (ks.flatMap pkc) :: R), ?_, ?_⟩
 rotate_left
 ·refine ifneF om ?_
  obtain ⟨e, he, hr⟩ := bufRd h (by simp)
  refine ⟨⟨by omega, by omega⟩, e, he, LdC (v := .bool okk) (hr 1 _ rfl) ?_⟩
  refine ifnf (fun hot => ?_) (fun hof => k nl [] w ?_ (pspNil h.tail.tail))
  ·refine ⟨⟨by omega, by omega⟩, e, he, LdR (rowR hr) ?_⟩
   refine call14 (s1 := (lo, hi, kx)) (spec14 (s := ⟨lo, hi, ks⟩) (fun w h => pkeysRd hkx h .k1) hl h fun b w hb h => ?_)
   refine ifn (fun hbf => k nl [] w ?_ (pspNil h.tail.tail)) (fun hbt => ⟨?_, h⟩)
   ·rw [hbf] at hb
    unfold gotOf
    rw [if_neg (fun h9 => of_decide_eq_false hb.symm h9.2)]; rfl
   ·rw [hbt] at hb
    exact ⟨hot, of_decide_eq_true hb.symm⟩
  ·unfold gotOf
   rw [if_neg (fun h9 => by rw [h9.1] at hof; exact nomatch hof)]; rfl
 clear h
 rintro _ w ⟨hc, h⟩
 have hg : gotOf okk lo hi kb ks = ks.map svOf := by unfold gotOf; rw [if_pos hc]
 rw [hg] at k
 obtain ⟨e, he, hr⟩ := bufRd h (by simp)
 refine ⟨⟨by omega, by omega⟩, e, he, LdR (rowR hr) (NewS_run h fun l7 w h => ?_)⟩
 refine call39 (l1 := ⟨some l7, 1, 1⟩) (spec39 (ys := fun _ => kx) (ss := [⟨lo, hi, ks⟩]) (fun w h => ⟨rfl, fun j hj => ?_⟩) (show 1 < 2^32 by decide) (fun s hs => by rw [List.mem_singleton.1 hs]; exact hl) h fun r8 ps w hps h => ?_)
 ·have : j = 0 := by rw [List.length_cons, List.length_nil] at hj; omega
  subst this
  exact ⟨l7, rfl, h.rdL .here, pkeysRd hkx h .k2⟩
 ·obtain ⟨x, rfl⟩ : ∃ x, ps = [x] := by
   have := congrArg List.length hps
   rw [List.length_map, List.length_map] at this
   match ps, this with
   | [x], _ => exact ⟨x, rfl⟩
  simp only [List.map_cons, List.map_nil, List.cons.injEq, and_true] at hps
  obtain ⟨h1, hrd⟩ := PSp.rd h
  obtain ⟨e8, he8, hr8, hk8⟩ := hrd 0 (by simp)
  have exk : x.keys = ks.map bareK := congrArg SpanM.keys hps
  have exn : x.kx.n = ks.length := by
   have := hk8.1
   rw [List.getElem_map] at this
   have e2 : ([x][0]).sp.keys = x.keys := rfl
   rw [e2, exk, List.length_map] at this
   exact this
  dsimp only at hr8
  have h8 : ([x] : List PlM).getD 0 pld = x := rfl
  rw [h8] at hr8
  have hrn : r8.n = 1 := h1
  refine ⟨⟨by omega, by omega⟩, e8, he8, LdR hr8 (NewP_run h fun n w h => StL_of (St1 h rfl fun w h => St1 h rfl fun w h => St1 h rfl fun w h => ?_))⟩
  simp only [StC]
  refine Ld1 h (ife (fun h0 => ?_) (fun h0 => ?_))
  ·dsimp only at h0
   have hk0 : ks = [] := List.length_eq_zero_iff.1 om
   exact k nl [] w (by rw [hk0]; rfl) (pspNil (Sat.drop 5 h))
  ·have hk0 : ks ≠ [] := fun e => h0 (by dsimp only; rw [exn, e]; rfl)
   refine Ld1 h (NewS_run h fun p w h => ?_)
   obtain ⟨_, a2, h3⟩ := pspOpen (h.mv 2)
   have h4 := (h3.mv 1).fam_out (i := 0) (by simp)
   have e4 : plF [x] 0 = Buf 3 x.kx (x.keys.flatMap pkc) := rfl
   rw [e4] at h4
   have h5 : Sat w (Arr p [.string .empty, .string .empty, .slice x.kx.a x.kx.n x.kx.c] :: Buf 3 x.kx (x.keys.flatMap pkc) :: R) := ((((((((h4.mv 1).tail.mv 1).tail.mv 2).tail.mv 2).tail.mv 2).tail.mv 2).tail.mv 0).mv 1)
   have h6 : Sat w (Buf 3 ⟨some p, 1, 1⟩ (([] : List PlM).flatMap plc ++ plc ⟨.empty, .empty, x.kx, x.keys⟩) :: Buf 3 x.kx (x.keys.flatMap pkc) :: Fam ([] : List PlM).length (plF []) :: R) := by
    have h7 := h5.cons (d := Buf 3 ⟨some p, 1, 1⟩ (plc ⟨.empty, .empty, x.kx, x.keys⟩)) fun g hg => ⟨rfl, [], rfl, by rw [List.append_nil]; exact hg⟩
    exact SatU.under (fun _ => SatU.under (fun _ h => SatU.nil (fun _ => rfl) h) _) _ h7
   have h7 := pspSnoc (ps := []) (x := ⟨.empty, .empty, x.kx, x.keys⟩) (r := ⟨some p, 1, 1⟩) rfl (fun y hy => by cases hy) (by show x.kx.n = x.keys.length; rw [exk, List.length_map, exn]) h6
   refine k _ _ w ?_ h7
   unfold batS
   rw [if_neg (by simpa using hk0)]
   show [SpanM.mk .empty .empty x.keys] = _
   rw [exk, List.map_map]; rfl
def bmp (d : Int) (m : KeyM) : KeyM := { m with tr := m.tr + d }
def bmpP (d : Int) (x : PlM) : PlM := { x with keys := x.keys.map (bmp d) }
def mt {α : Type} (f : α -> α) (l : List α) (j : Nat) : List α := (l.take j).map f ++ l.drop j
theorem mt_zero {α : Type} (f : α -> α) (l : List α) : mt f l 0 = l := rfl
theorem mt_all {α : Type} (f : α -> α) (l : List α) : mt f l l.length = l.map f := by unfold mt; rw [List.take_length, List.drop_length, List.append_nil]
theorem mt_len {α : Type} (f : α -> α) (l : List α) (j : Nat) : (mt f l j).length = l.length := by
 unfold mt
 rw [List.length_append, List.length_map, List.length_take, List.length_drop]; omega
theorem mt_get {α : Type} (f : α -> α) (l : List α) (j : Nat) : (mt f l j)[j]? = l[j]? := by
 unfold mt
 by_cases h : j < l.length
 ·rw [List.getElem?_append_right (by rw [List.length_map, List.length_take]; omega), List.length_map, List.length_take, Nat.min_eq_left om, Nat.sub_self, List.getElem?_drop, Nat.add_zero]
 ·rw [List.getElem?_eq_none (by rw [List.length_append, List.length_map, List.length_take, List.length_drop]; omega), List.getElem?_eq_none om]
theorem mt_set {α : Type} (f : α -> α) (l : List α) (j : Nat) (x : α) (h : l[j]? = some x) : (mt f l j).set j (f x) = mt f l (j + 1) := by
 have hj : j < l.length := (List.getElem?_eq_some_iff.1 h).1
 unfold mt
 rw [List.set_append_right _ _ (by rw [List.length_map, List.length_take]; omega), List.length_map, List.length_take, Nat.min_eq_left om, Nat.sub_self, List.drop_eq_getElem_cons hj, List.set_cons_zero, List.take_add_one, h]
 simp
theorem set_self {α : Type} : ∀ {l : List α} {i : Nat} {x : α}, l[i]? = some x -> l.set i x = l
 | [], _, _, h => by simp at h
 | y :: l, 0, x, h => by simp at h; rw [h]; rfl
 | y :: l, i + 1, x, h => by rw [List.set_cons_succ, set_self (by simpa using h)]
set_option maxHeartbeats 2000000 in
theorem bump4 {rg : Sl} {ps : List PlM} {R w} {KK : WP} (hn : ps.length < 2^32) (hk : ∀ x ∈ ps, x.keys.length < 2^32) (ht : ∀ x ∈ ps, ∀ m ∈ x.keys, 0 <= m.tr /\ m.tr < 2^62) (h : Sat w (PSp rg ps :: R)) (k : ∀ w', Sat w' (PSp rg (ps.map (bmpP 1048576)) :: R) -> KK w') :
  Tr.Loop (fun (a9 : Int -> WP) (s19 : Int) w => (if (decide (s19 < (rg.n : Int))) = true then (0 <= s19 /\ s19 < (rg.n : Int)) /\ (∃ aa, rg.a = some aa /\ Ld tS ((aa.add (s19.toNat * 3)).add 2) (fun ab w => Tr.Loop (fun (ac : Int -> WP) (s23 : Int) w => (if (decide (s23 < (ab.n : Int))) = true then (0 <= s19 /\ s19 < (rg.n : Int)) /\ (∃ ad, rg.a = some ad /\ Ld tS ((ad.add (s19.toNat * 3)).add 2) (fun ae w => (0 <= s23 /\ s23 < (ae.n : Int)) /\ (∃ af, ae.a = some af /\ Ld tu64 ((af.add (s23.toNat * 3)).add 0) (fun (ag : Int) w => (0 <= s23 /\ s23 < (ae.n : Int)) /\ (∃ ah, ae.a = some ah /\ St ((ah.add (s23.toNat * 3)).add 0) (.int .u64 (IntKind.u64.wrap (ag + 1048576))) (fun w => ac (IntKind.i64.wrap (s23 + 1)) w) w)) w)) w) else a9 (IntKind.i64.wrap (s19 + 1)) w)) (0 : Int) w) w) else KK w)) (0 : Int) w := by
 refine ⟨fun m (z : Int) w => ∃ i : Nat, z = (i : Int) /\ i <= ps.length /\ m = ps.length - i /\ Sat w (PSp rg (mt (bmpP 1048576) ps i) :: R), ⟨_, 0, rfl, Nat.zero_le _, rfl, h⟩, ?_⟩
 clear h
 rintro m z w ⟨i, rfl, hi, hm, h⟩
 have hrn := psp_len h
 rw [mt_len] at hrn
 refine ifd (fun hlt => ?_) (fun hge => ?_)
 rotate_left
 ·have : i = ps.length := by omega
  subst this
  rw [mt_all] at h
  exact k w h
 have hil : i < ps.length := by omega
 have hx : ps[i]? = some ps[i] := List.getElem?_eq_getElem hil
 have hmem := List.getElem_mem hil
 have hkn := hk _ hmem
 have htr := ht _ hmem
 generalize ps[i] = x at hx hmem hkn htr
 have hrow : ∀ {w : World} {ps' : List PlM} {y : PlM}, Sat w (PSp rg ps' :: R) -> ps'[i]? = some y -> ∃ e, rg.a = some e /\ w.cell? ((e.add (i * 3)).add 2) = some (.slice y.kx.a y.kx.n y.kx.c) := by
  intro w ps' y h hy
  have hi' : i < ps'.length := (List.getElem?_eq_some_iff.1 hy).1
  obtain ⟨e, he, hr, _⟩ := (PSp.rd h).2 i (by rw [List.length_map]; exact hi')
  have e2 : ps'.getD i pld = y := by rw [List.getD_eq_getElem?_getD, hy]; rfl
  dsimp only at hr
  rw [e2] at hr
  exact ⟨e, he, hr 2 _ rfl⟩
 have hxi : (mt (bmpP 1048576) ps i)[i]? = some x := by rw [mt_get]; exact hx
 obtain ⟨e, he, hc⟩ := hrow h hxi
 rw [Int.toNat_natCast, w1 om]
 refine ⟨⟨by omega, hlt⟩, e, he, LdC hc ?_⟩
 have hkl : x.kx.n = x.keys.length := (pspOpen h).2.1 x (List.mem_of_getElem? hxi)
 have hset : ∀ y, ((mt (bmpP 1048576) ps i).set i y)[i]? = some y := fun y => by rw [List.getElem?_set_self (by rw [mt_len]; exact hil)]
 refine ⟨fun m' (z : Int) w => ∃ j : Nat, z = (j : Int) /\ j <= x.keys.length /\ m' = x.keys.length - j /\ Sat w (PSp rg ((mt (bmpP 1048576) ps i).set i { x with keys := mt (bmp 1048576) x.keys j }) :: R), ⟨_, 0, rfl, Nat.zero_le _, rfl, ?_⟩, ?_⟩
 ·rw [mt_zero]
  have : (mt (bmpP 1048576) ps i).set i { x with keys := x.keys } = mt (bmpP 1048576) ps i := set_self hxi
  rw [this]; exact h
 clear h hc
 rintro m' z w ⟨j, rfl, hj, hm', h⟩
 refine ifd (fun hlt2 => ?_) (fun hge2 => ?_)
 ·dsimp only at hlt2
  have hjl : j < x.keys.length := by omega
  have hmj : x.keys[j]? = some x.keys[j] := List.getElem?_eq_getElem hjl
  have htj := htr _ (List.getElem_mem hjl)
  generalize x.keys[j] = q at hmj htj
  obtain ⟨e2, he2, hc2⟩ := hrow h (hset _)
  obtain ⟨a, ha, hra, hst⟩ := pspKey (w1 := w) h (hset _) (show (mt (bmp 1048576) x.keys j)[j]? = some q by rw [mt_get]; exact hmj)
  rw [w1 om, Int.toNat_natCast]
  refine ⟨⟨by omega, hlt⟩, e2, he2, LdC hc2 ⟨⟨by omega, by dsimp only; omega⟩, a, ha, LdC (v := .int .u64 q.tr) (hra 0 _ rfl) ⟨⟨by omega, by dsimp only; omega⟩, a, ha, ?_⟩⟩⟩
  rw [wu64 om om]
  refine hst _ _ fun w h => ⟨_, ?_, j + 1, rfl, hjl, rfl, ?_⟩
  ·omega
  ·rw [List.set_set] at h
   have e9 : (mt (bmp 1048576) x.keys j).set j { q with tr := q.tr + 1048576 } = mt (bmp 1048576) x.keys (j + 1) := mt_set (bmp 1048576) x.keys j q hmj
   rw [e9] at h
   exact h
 ·dsimp only at hge2
  have hjl : j = x.keys.length := by omega
  subst hjl
  rw [mt_all] at h
  have e9 : (mt (bmpP 1048576) ps i).set i { x with keys := x.keys.map (bmp 1048576) } = mt (bmpP 1048576) ps (i + 1) := mt_set (bmpP 1048576) ps i x hx
  rw [e9] at h
  refine ⟨_, ?_, i + 1, rfl, hil, rfl, h⟩
  omega
theorem flat_inv {α : Type} {f : α -> List Value} {k : Nat} (hf : ∀ x, (f x).length = k) : ∀ (l : List α) (m : Nat) (v : Value), (l.flatMap f)[m]? = some v -> ∃ (j i : Nat) (x : α), m = j * k + i /\ l[j]? = some x /\ (f x)[i]? = some v
 | [], m, v, h => by simp at h
 | x :: l, m, v, h => by
  rw [List.flatMap_cons] at h
  by_cases hm : m < (f x).length
  ·rw [List.getElem?_append_left hm] at h
   exact ⟨0, m, x, by omega, rfl, h⟩
  ·rw [List.getElem?_append_right om] at h
   obtain ⟨j, i, y, h1, h2, h3⟩ := flat_inv hf l _ v h
   rw [hf] at h1 hm
   exact ⟨j + 1, i, y, by rw [Nat.add_mul]; omega, h2, h3⟩
theorem OpsIn.rdS {R} {x : Sl} {l : List OpM} (h : OpsIn R x l) {w} (hs : Sat w R) : RdS w x.a (x.n * 6) (l.flatMap oc) := by
 obtain ⟨h1, h2⟩ := h
 unfold RdS
 cases ha : x.a with
 | none =>
  cases l with
  | nil => rfl
  | cons o l =>
   obtain ⟨e, he, _⟩ := h2 w hs 0 o rfl
   rw [ha] at he; cases he
 | some a =>
  refine ⟨by rw [flat_len_k (f := oc) (k := 6) (fun _ => rfl), h1], fun m v hv => ?_⟩
  obtain ⟨j, i, o, rfl, ho, hi⟩ := flat_inv (f := oc) (k := 6) (fun _ => rfl) l m v hv
  obtain ⟨e, he, hr⟩ := h2 w hs j o ho
  rw [ha] at he
  injection he with he
  subst he
  have := hr i v hi
  rwa [Addr.add_add] at this
theorem oc_ones (l : List OpM) : ∀ v ∈ l.flatMap oc, v.oneCell' = true := fun v hv => by
 obtain ⟨x, _, hx⟩ := List.mem_flatMap.1 hv
 have h1 : ∀ v ∈ oc x, v.oneCell' = true := ones_of rfl
 exact h1 v hx
def bmpS (d : Int) (s : SpanM) : SpanM := { s with keys := s.keys.map (bmp d) }
theorem bmpP_sp (d : Int) (ps : List PlM) : (ps.map (bmpP d)).map PlM.sp = (ps.map PlM.sp).map (bmpS d) := by rw [List.map_map, List.map_map]; rfl
theorem keysOf_bmp (d : Int) (y : ByteArray) : ∀ ss : List SpanM, keysOf (ss.map (bmpS d)) y = (keysOf ss y).map (bmp d)
 | [] => rfl
 | s :: ss => by
  have ih := keysOf_bmp d y ss
  unfold keysOf covs at ih |-
  rw [List.map_cons, List.find?_cons, List.find?_cons]
  have e1 : (decide (bcmp (bmpS d s).lo y <= 0) && decide (bcmp y (bmpS d s).hi < 0)) = (decide (bcmp s.lo y <= 0) && decide (bcmp y s.hi < 0)) := rfl
  rw [e1]
  cases (decide (bcmp s.lo y <= 0) && decide (bcmp y s.hi < 0)) with
  | true => rfl
  | false => exact ih
theorem SpansOK.bmp {ss : List SpanM} (h : SpansOK ss) (d : Int) : SpansOK (ss.map (bmpS d)) := by
 refine ⟨fun j s e => ?_, fun i j x y hij ex ey => ?_, fun s hs => ?_⟩
 ·rw [List.getElem?_map, Option.map_eq_some_iff] at e
  obtain ⟨t, et, rfl⟩ := e
  exact h.ne j t et
 ·rw [List.getElem?_map, Option.map_eq_some_iff] at ex ey
  obtain ⟨t, et, rfl⟩ := ex
  obtain ⟨u, eu, rfl⟩ := ey
  exact h.so i j t u hij et eu
 ·obtain ⟨t, ht, rfl⟩ := List.mem_map.1 hs
  exact h.sz t ht
structure LevK (ss : List SpanM) (E : ByteArray -> List KeyM) : Prop where
 ok : SpansOK ss
 n : ss.length < 2^32
 ks : ∀ y, (keysOf ss y).Perm (E y)
 pr : ∀ y, ∀ m ∈ E y, (0 <= m.tr /\ m.tr < 9223372036854775808 /\ (m.tr % 256 = 19 \/ m.tr % 256 = 20 \/ m.tr % 256 = 21)) /\ m.suf.size < 2^40 /\ m.val.size < 2^40
 el : ∀ y, (E y).length <= 1048576
theorem LevK.key {ss : List SpanM} {E : ByteArray -> List KeyM} (h : LevK ss E) : ∀ s ∈ ss, s.keys.Perm (E s.lo) := by
 intro s hs
 obtain ⟨j, hj, e⟩ := List.getElem_of_mem hs
 have hj' : ss[j]? = some s := by rw [List.getElem?_eq_getElem hj, e]
 have h2 : covs ss s.lo = some s := covs_at h.ok hj' (by rw [bcmp_refl]; exact Int.le_refl _) (h.ok.ne j s hj')
 have h3 := h.ks s.lo
 unfold keysOf at h3
 rw [h2] at h3
 exact h3
abbrev LevE := List SpanM × (ByteArray -> List KeyM)
theorem keysL_perm {L : List LevE} (h : ∀ p ∈ L, LevK p.1 p.2) (y : ByteArray) : (keysL (L.map (·.1)) y).Perm (L.flatMap fun p => p.2 y) := by
 induction L with
 | nil => exact List.Perm.refl _
 | cons p L ih =>
  have e1 : keysL ((p :: L).map (·.1)) y = keysOf p.1 y ++ keysL (L.map (·.1)) y := rfl
  rw [e1, List.flatMap_cons]
  exact ((h p (by simp)).ks y).append (ih fun q hq => h q (by simp [hq]))
theorem lg_of {L : List LevE} (hk : L.length <= 10) (h : ∀ p ∈ L, LevK p.1 p.2) (nd : ∀ y, ((L.flatMap fun p => p.2 y).map (·.tr)).Nodup) : LG (L.map (·.1)) := by
 have cs : ∀ ss ∈ L.map (·.1), ∃ E, LevK ss E := fun ss hs => by
  obtain ⟨p, hp, rfl⟩ := List.mem_map.1 hs
  exact ⟨p.2, h p hp⟩
 refine ⟨by rw [List.length_map]; exact hk, fun s hs => ?_, fun s hs => ?_, fun s hs x hx => ?_, fun s hs x hx m hm => ?_, fun s hs x hx m hm => ?_, fun y => ?_⟩
 ·obtain ⟨E, hE⟩ := cs s hs; exact hE.ok
 ·obtain ⟨E, hE⟩ := cs s hs; exact hE.n
 ·obtain ⟨E, hE⟩ := cs s hs
  rw [(hE.key x hx).length_eq]; exact hE.el _
 ·obtain ⟨E, hE⟩ := cs s hs
  exact (hE.pr _ m ((hE.key x hx).mem_iff.1 hm)).1
 ·obtain ⟨E, hE⟩ := cs s hs
  exact (hE.pr _ m ((hE.key x hx).mem_iff.1 hm)).2
 ·exact ((keysL_perm h y).map _).nodup_iff.2 (nd y)
def batE (l : List OpM) (d : Int) (y : ByteArray) : List KeyM := ((entIn y l).map eKey).map (bmp d)
theorem bmp_zero (l : List KeyM) : l.map (bmp 0) = l := by
 have : ∀ m : KeyM, bmp 0 m = m := fun m => by unfold bmp; rw [Int.add_zero]
 rw [List.map_congr_left (g := id) fun m _ => this m, List.map_id]
theorem batE_pr {l : List OpM} (hl : ∀ o ∈ l, OpOK o) (hn : l.length <= 512) {d : Int} (hd : 0 <= d /\ d < 2^60 /\ d % 256 = 0) (y : ByteArray) : ∀ m ∈ batE l d y, (d <= m.tr /\ m.tr < d + 131072 /\ (m.tr % 256 = 19 \/ m.tr % 256 = 20 \/ m.tr % 256 = 21)) /\ m.suf.size < 2^40 /\ m.val.size < 2^40 := by
 intro m hm
 obtain ⟨q, hq, rfl⟩ := List.mem_map.1 hm
 have h := eKey_props hl hn q hq
 refine ⟨?_, h.2⟩
 show d <= q.tr + d /\ q.tr + d < d + 131072 /\ ((q.tr + d) % 256 = 19 \/ (q.tr + d) % 256 = 20 \/ (q.tr + d) % 256 = 21)
 have := h.1
 omega
theorem RngOK.lev {l : List OpM} {ss : List SpanM} (hl : ∀ o ∈ l, OpOK o) (hn : l.length <= 512) {d : Int} (hd : 0 <= d /\ d < 2^60 /\ d % 256 = 0) (h : RngOK l ss) : LevK (ss.map (bmpS d)) (batE l d) := by
 refine ⟨h.ok.bmp d, by rw [List.length_map]; exact h.n, fun y => ?_, fun y m hm => ?_, fun y => ?_⟩
 ·rw [keysOf_bmp]
  exact (h.at y).map _
 ·have := batE_pr hl hn hd y m hm
  refine ⟨?_, this.2⟩
  omega
 ·unfold batE
  rw [List.length_map, List.length_map]
  have := entIn_len y l
  omega
theorem batE_tr {l : List OpM} (hl : ∀ o ∈ l, OpOK o) (d : Int) (y : ByteArray) : (batE l d y).Pairwise fun a b => a.tr < b.tr :=
 List.pairwise_map.2 ((entIn_tr hl).imp fun {a b} h => by show a.tr + d < b.tr + d; omega)
theorem bmp_step (d : Int) (hd : d % 256 = 0) (m : KeyM) (s : List SV) : rsStep (bmp d m) s = rsStep m s := by
 refine rsStep_congr (k := bmp d m) (k' := m) ?_ (fun _ => rfl) (fun _ => rfl) s
 show (m.tr + d) % 256 = m.tr % 256
 omega
theorem batE_rs {kb : ByteArray} {l : List OpM} (hl : ∀ o ∈ l, OpOK o) {d : Int} (hd : d % 256 = 0) (s0 : List SV) : rsAll (batE l d kb).reverse s0 = rsAll (bsKeys kb l) s0 := by
 rw [batch_rs hl]
 unfold batE
 rw [<- List.map_reverse]
 have := rsAll_congr (f := bmp d) (g := id) (s0 := s0) (l := ((entIn kb l).map eKey).reverse) fun m _ s => bmp_step d hd m s
 rwa [List.map_id] at this
theorem bsKeys_app (kb : ByteArray) (a b : List OpM) : bsKeys kb (a ++ b) = bsKeys kb b ++ bsKeys kb a := by
 unfold bsKeys
 rw [List.filter_append, List.map_append, List.reverse_append]
theorem sv_sort (s : List SV) : ∃ res, SvRes s res := by
 induction s with
 | nil => exact ⟨[], List.Perm.refl _, List.Pairwise.nil⟩
 | cons x s ih =>
  obtain ⟨r, h1, h2⟩ := ih
  have key : ∀ r : List SV, r.Pairwise (fun a b => bcmp a.1 b.1 <= 0) -> ∃ r' : List SV, r'.Perm (x :: r) /\ r'.Pairwise (fun a b => bcmp a.1 b.1 <= 0) := by
   intro r
   induction r with
   | nil => intro _; exact ⟨[x], List.Perm.refl _, List.pairwise_singleton _ _⟩
   | cons y r ih =>
    intro h
    rw [List.pairwise_cons] at h
    by_cases e : bcmp x.1 y.1 <= 0
    ·refine ⟨x :: y :: r, List.Perm.refl _, List.pairwise_cons.2 ⟨fun z hz => ?_, List.pairwise_cons.2 h⟩⟩
     rcases List.mem_cons.1 hz with rfl | hz
     ·exact e
     ·exact bcmp_trans e (h.1 z hz)
    ·obtain ⟨r', p1, p2⟩ := ih h.2
     refine ⟨y :: r', (p1.cons y).trans (List.Perm.swap x y r), List.pairwise_cons.2 ⟨fun z hz => ?_, p2⟩⟩
     rcases List.mem_cons.1 (p1.mem_iff.1 hz) with rfl | hz
     ·have := bcmp_anti z.1 y.1; omega
     ·exact h.1 z hz
  obtain ⟨r', p1, p2⟩ := key r h2
  exact ⟨r', p1.trans (h1.cons x), p2⟩
theorem twice_same {la lb : List OpM} {kb : ByteArray} {g1 g2 : List SV} (ha : ∀ o ∈ la, OpOK o) (hb : ∀ o ∈ lb, OpOK o) (hna : la.length <= 512) (hnb : lb.length <= 512) (hnab : (la ++ lb).length <= 512)
  (h1 : IsC 1125899906842624 (batE lb 1048576 kb ++ batE la 0 kb) g1) (h2 : IsC 1125899906842624 (batE (la ++ lb) 0 kb) g2) : g1 = g2 := by
 have hab : ∀ o ∈ la ++ lb, OpOK o := fun o ho => (List.mem_append.1 ho).elim (ha o) (hb o)
 obtain ⟨res, hr⟩ := sv_sort (rsAll (bsKeys kb (la ++ lb)) [])
 have pa := batE_pr ha hna (d := 0) om kb
 have pb := batE_pr hb hnb (d := 1048576) om kb
 have pab := batE_pr hab hnab (d := 0) om kb
 have e1 : rsAll (batE la 0 kb ++ batE lb 1048576 kb).reverse [] = rsAll (bsKeys kb (la ++ lb)) [] := by
  rw [List.reverse_append, rsAll_app, batE_rs hb (by decide), batE_rs ha (by decide), bsKeys_app, rsAll_app]
 have c1 : IsC 1125899906842624 (batE la 0 kb ++ batE lb 1048576 kb) res := by
  refine IsC.of_rs (List.pairwise_append.2 ⟨batE_tr ha _ _, batE_tr hb _ _, fun x hx y hy => ?_⟩) (fun m hm => ?_) (by rw [e1]; exact hr)
  ·have := (pa x hx).1; have := (pb y hy).1; omega
  ·rcases List.mem_append.1 hm with hm | hm
   ·have := (pa m hm).1; omega
   ·have := (pb m hm).1; omega
 have c2 : IsC 1125899906842624 (batE (la ++ lb) 0 kb) res := by
  refine IsC.of_rs (batE_tr hab _ _) (fun m hm => ?_) (by rw [batE_rs hab (by decide)]; exact hr)
  have := (pab m hm).1; omega
 have c1' : IsC 1125899906842624 (batE lb 1048576 kb ++ batE la 0 kb) res := c1.of_mem fun m _ => by rw [List.mem_append, List.mem_append]; exact Or.comm
 rw [h1.unique c1', h2.unique c2]
theorem AnsL.nok {ls : List (List SpanM)} {sn : Int} {kb lo hi : ByteArray} {okk : Bool} {ks : List KeyM} (h : AnsL ls sn kb okk lo hi ks) : okk = false -> ks = [] := by
 intro e
 rcases h with ⟨_, h, _⟩ | ⟨h, _⟩
 ·exact h
 ·rw [h] at e; exact nomatch e
theorem lev1 {l : List OpM} {ss : List SpanM} (hl : ∀ o ∈ l, OpOK o) (hn : l.length <= 512) (h : RngOK l ss) : LevK ss (batE l 0) := by
 have := h.lev hl hn (d := 0) om
 have e : ss.map (bmpS 0) = ss := by
  have : ∀ s : SpanM, bmpS 0 s = s := fun s => by unfold bmpS; rw [bmp_zero]
  rw [List.map_congr_left (g := id) fun m _ => this m, List.map_id]
 rwa [e] at this
theorem twice_nd {la lb : List OpM} (ha : ∀ o ∈ la, OpOK o) (hb : ∀ o ∈ lb, OpOK o) (hna : la.length <= 512) (hnb : lb.length <= 512) (y : ByteArray) : ((batE lb 1048576 y ++ batE la 0 y).map (·.tr)).Nodup := by
 rw [List.map_append, List.nodup_append]
 refine ⟨List.pairwise_map.2 ((batE_tr hb _ _).imp fun h => Int.ne_of_lt h), List.pairwise_map.2 ((batE_tr ha _ _).imp fun h => Int.ne_of_lt h), fun x hx z hz e => ?_⟩
 obtain ⟨m, hm, rfl⟩ := List.mem_map.1 hx
 obtain ⟨q, hq, rfl⟩ := List.mem_map.1 hz
 have h1 := (batE_pr hb hnb (d := 1048576) om y m hm).1
 have h2 := (batE_pr ha hna (d := 0) om y q hq).1
 omega
set_option maxHeartbeats 4000000 in
theorem spec4 {a b : Sl} {la lb : List OpM} {kb : ByteArray} {R w} {K : Bool -> WP} (hsa : ∀ o ∈ la, o.size < 2^32) (hsb : ∀ o ∈ lb, o.size < 2^32) (ha : OpsIn R a la) (hb : OpsIn R b lb) (h : Sat w R) (k : ∀ w', Sat w' R -> K true w') : F4 a b kb K w := by
 unfold F4
 refine ⟨fun _ w => (la.length <= 2147483647 /\ lb.length <= 2147483647) /\ Sat w R, ?_, ?_⟩
 rotate_left
 ·refine call6 (spec6 ha h fun b1 w h1 h => ifnf (fun hb1 => ?_) (fun _ => k _ h))
  exact call6 (spec6 hb h fun b2 w h2 h => ifnf (fun hb2 => ifd (fun _ => k _ h) fun _ => ⟨⟨h1 hb1, h2 hb2⟩, h⟩) (fun _ => k _ h))
 clear h
 rintro _ w ⟨⟨hla, hlb⟩, h⟩
 refine ⟨fun _ w => ((0 < la.length /\ la.length <= 100 /\ ∀ o ∈ la, OpOK o) /\ 0 < lb.length /\ lb.length <= 100 /\ ∀ o ∈ lb, OpOK o) /\ Sat w R, ?_, ?_⟩
 rotate_left
 ·refine call7 (spec7 hla ha h fun b1 w h1 h => ifnf (fun hb1 => ?_) (fun _ => k _ h))
  refine call7 (spec7 hlb hb h fun b2 w h2 h => ifnf (fun hb2 => ?_) (fun _ => k _ h))
  refine call8 (spec8 hla ha h fun b3 w h3 h => ifnf (fun hb3 => ?_) (fun _ => k _ h))
  refine call8 (spec8 hlb hb h fun b4 w h4 h => ifn (fun _ => k _ h) fun hb4 => ⟨⟨⟨(h1 hb1).1, (h1 hb1).2.1, fun o ho => ((h1 hb1).2.2 o ho).ok (h3 hb3 o ho) (hsa o ho)⟩, (h2 hb2).1, (h2 hb2).2.1, fun o ho => ((h2 hb2).2.2 o ho).ok (h4 hb4 o ho) (hsb o ho)⟩, h⟩)
 clear h
 rintro _ w ⟨⟨⟨a0, a100, aok⟩, b0, b100, bok⟩, h⟩
 have ane : la ≠ [] := fun e => by rw [e] at a0; exact absurd a0 (Nat.lt_irrefl _)
 have bne : lb ≠ [] := fun e => by rw [e] at b0; exact absurd b0 (Nat.lt_irrefl _)
 have abok : ∀ o ∈ la ++ lb, OpOK o := fun o ho => (List.mem_append.1 ho).elim (aok o) (bok o)
 have abl : (la ++ lb).length = la.length + lb.length := List.length_append
 have abne : la ++ lb ≠ [] := fun e => by rw [e] at abl; simp at abl; omega
 refine call10 (spec10 om ha h fun r8 w hr8 h => ?_)
 refine call9 (spec9 aok om ane (OpsIn.buf hr8) h fun pts dl rgA psA w _ hA h => ?_)
 replace h : Sat w (PSp rgA psA :: R) := (h.mv 1).tail
 refine call10 (spec10 om hb.up h fun r8' w hr8' h => ?_)
 refine call9 (spec9 bok om bne (OpsIn.buf hr8') h fun pts' dl' rgB psB w _ hB h => ?_)
 replace h : Sat w (PSp rgB psB :: PSp rgA psA :: R) := (h.mv 1).tail
 refine NewS_run h fun p w h => ?_
 refine AppP_run (s := si22) (d := ⟨some p, 0, 0⟩) (old := []) (new := la.flatMap oc) (Sat.buf0 (sp := []) rfl h) (ha.rdS h.tail.tail.tail) (by rw [ha.1]; exact flat_len_k (f := oc) (k := 6) (fun _ => rfl) la) (oc_ones la) ?_ ?_ fun a4 w ha4 _ h => ?_
 ·have := ha.1
  show (2 * (0 + a.n) + 1024) * 80 <= _
  omega
 ·have := ha.1
  dsimp only; omega
 have ha4' : a4.n = la.length := by rw [ha4, ha.1]; exact Nat.zero_add _
 refine AppP_run (s := si22) (old := la.flatMap oc) (new := lb.flatMap oc) h (hb.rdS h.tail.tail.tail) (by rw [hb.1]; exact flat_len_k (f := oc) (k := 6) (fun _ => rfl) lb) (oc_ones lb) ?_ ?_ fun a5 w ha5 _ h => ?_
 ·have := hb.1
  show (2 * (a4.n + b.n) + 1024) * 80 <= _
  omega
 ·have := hb.1
  omega
 have ha5' : a5.n = (la ++ lb).length := by rw [ha5, ha4', hb.1, abl]
 have h2 : Sat w (Buf 6 a5 ((la ++ lb).flatMap oc) :: PSp rgB psB :: PSp rgA psA :: R) := by rw [List.flatMap_append]; exact h
 clear h
 refine call10 (spec10 om (OpsIn.buf ha5') h2 fun a6 w ha6 h => ?_)
 clear h2
 refine call9 (spec9 abok om abne (OpsIn.buf ha6) h fun pts'' dl'' rgC psC w _ hC h => ?_)
 replace h : Sat w (PSp rgC psC :: PSp rgB psB :: PSp rgA psA :: R) := ((h.mv 1).tail.mv 1).tail
 refine ⟨fun _ w => Sat w (PSp rgC psC :: PSp rgB psB :: PSp rgA psA :: R), ?_, ?_⟩
 rotate_left
 ·refine ifnf (fun _ => ifnf (fun _ => ifnf (fun _ => ?_) (fun hh => nomatch hh)) (fun hh => nomatch hh)) (fun hh => nomatch hh)
  exact call11 (spec11 h fun w h => ifn (fun hh => nomatch hh) fun _ => h)
 clear h
 rintro _ w h
 have kB : ∀ x ∈ psB, x.keys.Perm ((entIn x.lo lb).map eKey) := fun x hx => hB.key x.sp (List.mem_map.2 ⟨x, hx, rfl⟩)
 refine bump4 (ps := psB) (R := PSp rgC psC :: PSp rgA psA :: R) (by have := hB.n; rw [List.length_map] at this; exact this) (fun x hx => ?_) (fun x hx m hm => ?_) (h.mv 1) fun w h => ?_
 ·rw [(kB x hx).length_eq, List.length_map]
  have := entIn_len x.lo lb
  omega
 ·have := (eKey_props bok om m ((kB x hx).mem_iff.1 hm)).1
  omega
 refine NewS_run h fun ai w h => NewS_run h fun aj w h => ?_
 have lA := lev1 aok om hA
 have lB := hB.lev bok om (d := 1048576) om
 have lC := lev1 abok om hC
 rw [<- bmpP_sp] at lB
 have lgAB : LG [(psB.map (bmpP 1048576)).map PlM.sp, psA.map PlM.sp] := lg_of (L := [((psB.map (bmpP 1048576)).map PlM.sp, batE lb 1048576), (psA.map PlM.sp, batE la 0)]) (show 2 <= 10 by decide) (fun p hp => by
   rcases List.mem_cons.1 hp with rfl | hp
   ·exact lB
   ·rw [List.mem_singleton.1 hp]; exact lA) (fun y => by
   have := twice_nd aok bok om om y
   simpa using this)
 have lgC : LG [psC.map PlM.sp] := hC.lg abok om
 have pAB : (keysL [(psB.map (bmpP 1048576)).map PlM.sp, psA.map PlM.sp] kb).Perm (batE lb 1048576 kb ++ batE la 0 kb) := by
  have := keysL_perm (L := [((psB.map (bmpP 1048576)).map PlM.sp, batE lb 1048576), (psA.map PlM.sp, batE la 0)]) (fun p hp => by
   rcases List.mem_cons.1 hp with rfl | hp
   ·exact lB
   ·rw [List.mem_singleton.1 hp]; exact lA) kb
  simpa using this
 have pC : (keysL [psC.map PlM.sp] kb).Perm (batE (la ++ lb) 0 kb) := by
  rw [keysL1]; exact lC.ks kb
 refine call13 (levels1 := ⟨some aj, 2, 2⟩) (lower_3 := (.empty, false)) (upper_4 := (.empty, false)) (steps5 := ⟨some ai, 1, 1⟩) (spec13 (zs := fun j => if j = 0 then rgB else rgA) (ys := fun j i => if j = 0 then ((psB.map (bmpP 1048576)).getD i pld).kx else (psA.getD i pld).kx) lgAB (fun w h => ⟨rfl, fun j hj => ?_⟩) (h.mv 1) fun o1 okk1 lo1 hi1 kx1 ks1 w hans1 ho1 hkx1 hkl1 h => ?_)
 ·have hj2 : j < 2 := hj
  match j, hj2 with
  | 0, _ => exact ⟨aj, rfl, (h.rdL .here) 0 _ rfl, PSp.rd h.t1⟩
  | 1, _ => exact ⟨aj, rfl, (h.rdL .here) 1 _ rfl, PSp.rd (h.mv 3)⟩
 refine NewS_run h fun al w h => ?_
 replace h : Sat w (Arr ai [.int .u8 4, .string kb] :: Arr al [.slice rgC.a rgC.n rgC.c] :: Buf 5 o1 [.bool true, .bool okk1, .string lo1, .string hi1, .slice kx1.a kx1.n kx1.c] :: Buf 3 kx1 (ks1.flatMap pkc) :: Arr aj [.slice rgB.a rgB.n rgB.c, .slice rgA.a rgA.n rgA.c] :: PSp rgB (psB.map (bmpP 1048576)) :: PSp rgC psC :: PSp rgA psA :: R) := ((((h.mv 2).mv 2).mv 2).mv 3)
 refine call13 (levels1 := ⟨some al, 1, 1⟩) (lower_3 := (.empty, false)) (upper_4 := (.empty, false)) (steps5 := ⟨some ai, 1, 1⟩) (spec13 (zs := fun _ => rgC) (ys := fun _ i => (psC.getD i pld).kx) lgC (fun w h => ⟨rfl, fun j hj => ?_⟩) h fun o2 okk2 lo2 hi2 kx2 ks2 w hans2 ho2 hkx2 hkl2 h => ?_)
 ·have : j = 0 := by rw [List.length_cons, List.length_nil] at hj; omega
  subst this
  exact ⟨al, rfl, (h.rdL .here) 0 _ rfl, PSp.rd (h.mv 5)⟩
 have g1 := hans1.got.of_mem fun m _ => pAB.mem_iff
 have g2 := hans2.got.of_mem fun m _ => pC.mem_iff
 have hg := twice_same aok bok om om om g1 g2
 replace h : Sat w (Buf 5 o1 [.bool true, .bool okk1, .string lo1, .string hi1, .slice kx1.a kx1.n kx1.c] :: Buf 3 kx1 (ks1.flatMap pkc) :: Buf 5 o2 [.bool true, .bool okk2, .string lo2, .string hi2, .slice kx2.a kx2.n kx2.c] :: Buf 3 kx2 (ks2.flatMap pkc) :: R) := ((((((((((h.mv 2).tail.mv 2).tail.mv 4).tail.mv 4).tail.mv 4).tail.mv 4).tail.mv 1).mv 1).mv 3).mv 3)
 refine call16 (spec16 (kb := kb) hkx1 hkl1 ho1 h hans1.nok fun r1 ps1 w hp1 h => ?_)
 replace h : Sat w (Buf 5 o2 [.bool true, .bool okk2, .string lo2, .string hi2, .slice kx2.a kx2.n kx2.c] :: Buf 3 kx2 (ks2.flatMap pkc) :: PSp r1 ps1 :: R) := (((h.mv 0).mv 2).mv 2)
 refine call16 (spec16 (kb := kb) hkx2 hkl2 ho2 h hans2.nok fun r2 ps2 w hp2 h => ?_)
 rw [<- hg, <- hp1] at hp2
 have hbl : (ps1.map PlM.sp).length < 2^32 := by
  rw [hp1]; unfold batS
  split
  ·decide
  ·show 1 < 2^32
   decide
 refine call15 (spec15 (R := PSp r2 ps2 :: PSp r1 ps1 :: R) (ss := ps1.map PlM.sp) (fun w h => PSp.rd h.t1) (fun w h => by rw [<- hp2]; exact PSp.rd h) hbl (fun s hs => ?_) h fun w h => k w h.tail.tail)
 rw [hp1] at hs
 unfold batS at hs
 split at hs
 ·simp at hs
 ·rw [List.mem_singleton.1 hs]
  show ((gotOf okk1 lo1 hi1 kb ks1).map mk0).length < _
  rw [List.length_map]
  unfold gotOf
  split
  ·rw [List.length_map]; exact hkl1
  ·decide
open Go.ChangeMaps (open_string shut_string)
theorem twice_walk {W : World} {a b : Option Addr} {n c n' c' : Nat} {la lb : List OpM} {kb : ByteArray} (hsa : ∀ o ∈ la, o.size < 2^32) (hsb : ∀ o ∈ lb, o.size < 2^32) (ha : OpsIn [Own (memD W)] ⟨a, n, c⟩ la) (hb : OpsIn [Own (memD W)] ⟨b, n', c'⟩ lb) :
  Calls Tryz.prog 4 #[.slice a n c, .slice b n' c', .string kb] W fun e W' => e = .returned (.bool true) /\ Below W.heap.size W W' := by
 refine (ctrC (args := [.slice a n c, .slice b n' c', .string kb]) (R := [.one .bool]) (K := fun b W' => b = true /\ Sat W' [Own (memD W)]) Tryz.func4 A4 (by kernel_rfl) (by kernel_rfl : _ = F4 ⟨a, n, c⟩ ⟨b, n', c'⟩ kb (fun b W' => b = true /\ Sat W' [Own (memD W)]) W) (spec4 hsa hsb ha hb (memD_sat W) fun w h => ⟨rfl, h⟩)).mono fun e W' h => ?_
 cases e with
 | returned v =>
  obtain ⟨x, rfl, ⟨rfl, hs⟩, he⟩ := h
  exact ⟨rfl, below_of he hs⟩
 | _ => exact h.elim
theorem twice_lifted (os : Os) (started : os.Started) (H : Type) (enc : TypeId × Value -> H) :
  ReturnsInHanded {} Tryz.checked os 4 .any (fun w args => (Rows.fnBatchSeenTwiceSpec.pre enc Tryz.prog Tryz.f4 [] false w args /\ laidMetH Tryz.prog laid3 w) /\ sizedMet enc Tryz.prog Tryz.f4 (OpenSpec.ofChange Rows.fnBatchSeenTwiceSpec) false w args)
   (Rows.fnBatchSeenTwiceSpec.post enc Tryz.prog Tryz.f4 false true false false) := by
 refine returnsInHanded_of_change_and (C := Tryz.checked) (X := fun w _ => laidMetH Tryz.prog laid3 w) (fun _ _ _ hh h => h.of_heap hh) own started (by kernel_rfl) Tryz.func4
  (ChangeSpec.witness_shaped (enc := enc) (C := Tryz.checked) (os := os) (X := fun w _ => laidMetH Tryz.prog laid3 w) false (World.doorLaid Tryz.prog 400 os) #[.slice none 0 0, .slice none 0 0, .string ByteArray.empty] 8 rfl (World.shaped_of_RefB (by kernel_rfl) (by kernel_rfl)) (by kernel_rfl) (by kernel_rfl) (by kernel_rfl) (door_met os _)) ?_
 intro W base args ds gs before hval0 hW _ _ hL _
 have hval : ∀ (j : Nat) t v, Tryz.f4.params[j]? = some t -> args[j]? = some v -> Value.okWide Tryz.prog W .any base t v := hval0
 have hW' := hW
 obtain ⟨p, q, hA0, hV, rfl, hfz, hnd⟩ := hW
 have hA : DataW.TrodAll enc Tryz.prog W 0 (fun _ => true) true Tryz.f4.params.toList args.toList ds p := hA0
 rw [Tryz.params4] at hA hval
 obtain ⟨v0, vs0, d0, ds0, p0, q0, hargs, rfl, rfl, h0, r0⟩ := trodAll_cons hA
 obtain ⟨v1, vs1, d1, ds1, p1, q1, rfl, rfl, rfl, h1, r1⟩ := trodAll_cons r0
 obtain ⟨v2, vs2, d2, ds2, p2, q2, rfl, rfl, rfl, h2, r2⟩ := trodAll_cons r1
 obtain ⟨rfl, rfl, rfl⟩ := trodAll_nil r2
 obtain rfl : args = #[v0, v1, v2] := by cases args; simp_all
 obtain ⟨rfl, rfl⟩ := trodVars_none hV
 obtain ⟨a, n, c, rfl⟩ := okWide_slice Tryz.underlying22 (hval 0 22 v0 rfl rfl)
 obtain ⟨b, n', c', rfl⟩ := okWide_slice Tryz.underlying22 (hval 1 22 v1 rfl rfl)
 obtain ⟨kb, rfl, rfl, rfl, hkb⟩ := open_string Tryz.underlying9 (hval 2 9 v2 rfl rfl) h2
 have k0 := h0
 have lt0 : ∀ x ∈ p0, x.block < W.heap.size := by
  obtain ⟨m, hm⟩ := k0
  exact DataW.trod_lt m _ _ _ hm
 have k1 := h1
 have lt1 : ∀ x ∈ p1, x.block < W.heap.size := by
  obtain ⟨m, hm⟩ := k1
  exact DataW.trod_lt m _ _ _ hm
 obtain ⟨fuel, hf⟩ := h0
 obtain ⟨la, hn, hsa, hca⟩ := open_opsD hf
 obtain ⟨fuel', hf'⟩ := h1
 obtain ⟨lb, hn', hsb, hcb⟩ := open_opsD hf'
 clear hA0 hval0
 refine (twice_walk hsa hsb (opsIn_of hn hca) (opsIn_of hn' hcb)).mono fun e W' ⟨he, bel⟩ => ?_
 subst he
 exact ⟨_, rfl, _, _, _, [], _, [], hW', trodAll_mk1 (shut_bool Tryz.underlying4 _), trodAll_cons_mk (Below.trod laidOut (by kernel_rfl) (of_decide_eq_true (by kernel_rfl)) k0 bel lt0) (trodAll_cons_mk (Below.trod laidOut (by kernel_rfl) (of_decide_eq_true (by kernel_rfl)) k1 bel lt1) (trodAll_cons_mk (shut_string Tryz.underlying9 hkb) trodAll_mk0)), rfl, bel.frame _, fun h => by cases h⟩
end Go.Proofs.YtpkoddfamelnhaaGreatDoor
