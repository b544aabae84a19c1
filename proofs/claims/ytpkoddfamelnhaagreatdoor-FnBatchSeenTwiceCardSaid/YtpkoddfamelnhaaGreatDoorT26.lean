/- Part 26 of the proof of fnBatchSeenTwice_card. Conditions: none. -/
import Derived.Test.YtpkoddfamelnhaaGreatDoorT25
set_option linter.unusedVariables false
set_option linter.unusedSimpArgs false
namespace Go.Proofs.YtpkoddfamelnhaaGreatDoor
open Go Go.Tr
set_option maxRecDepth 100000
def OpsIn (R : List Chunk) (x : Sl) (l : List OpM) : Prop := x.n = l.length /\ ∀ w, Sat w R -> ∀ (j : Nat) (o : OpM), l[j]? = some o -> ∃ e, x.a = some e /\ RdL w (e.add (j * 6)) (oc o)
theorem OpsIn.up {R} {c : Chunk} {x : Sl} {l : List OpM} (h : OpsIn R x l) : OpsIn (c :: R) x l := ⟨h.1, fun w hs => h.2 w hs.tail⟩
def encL (l : List OpM) : List Nat := if l = [] then [] else z12 ++ l.flatMap recOp
theorem hdr_encL (l : List OpM) : hdr (encL l) = z12 ++ l.flatMap recOp := by
 cases l with
 | nil => simp [encL, hdr]
 | cons o l =>
  have e : encL (o :: l) = z12 ++ (o :: l).flatMap recOp := if_neg (by simp)
  have hne : ¬ encL (o :: l) = [] := by
   intro h
   rw [e] at h
   have := congrArg List.length h
   rw [List.length_append] at this
   simp [z12] at this
  unfold hdr
  rw [if_neg hne, e]
theorem encL_snoc (l : List OpM) (o : OpM) : encL (l ++ [o]) = hdr (encL l) ++ recOp o := by
 rw [hdr_encL]
 unfold encL
 rw [if_neg (by simp), List.flatMap_append, <- List.append_assoc]
 simp
theorem recOp_len {o : OpM} (h : OpOK o) : (recOp o).length <= 2^22 + 64 := by
 obtain ⟨z1, z2, z3, z4, z5, z6⟩ := h
 have a1 := vi_len4 (n := o.key.size) om
 have a2 := vi_len4 (n := o.val.size) om
 have a3 := vi_len4 (n := o.end_.size) om
 have a4 := vi_len4 (n := o.suf.size) om
 have a5 := vi_len5 (n := o.size + o.key.size) om
 have b1 := vb_len o.end_
 have b2 := vb_len o.suf
 have b3 := vb_len o.val
 unfold recOp
 have e1 := bl_len o.key
 have e2 := bl_len o.val
 have e3 := bl_len o.end_
 repeat' split
 ·rw [recK_len, e1]; omega
 ·rw [recKV_len, e1, e3]; omega
 ·rw [recKV_len, e1, List.length_append]
  have := vi_len4 (n := (vb o.end_).length + (vb o.suf).length) om
  omega
 ·rw [recKV_len, e1, List.length_append, List.length_append]
  have := vi_len4 (n := (vb o.end_).length + ((vb o.suf).length + (vb o.val).length)) om
  omega
 ·rw [recKV_len, e1]
  have := vi_len4 (n := (vi (o.size + o.key.size)).length) om
  omega
 ·rw [recKV_len, e1, e2]; omega
theorem flat_len {l : List OpM} (h : ∀ o ∈ l, OpOK o) : (l.flatMap recOp).length <= l.length * (2^22 + 64) := by
 induction l with
 | nil => simp
 | cons o l ih =>
  rw [List.flatMap_cons, List.length_append, List.length_cons, Nat.succ_mul]
  have := recOp_len (h o (by simp))
  have := ih fun x hx => h x (by simp [hx])
  omega
theorem encL_len {l : List OpM} (h : ∀ o ∈ l, OpOK o) : (encL l).length <= 12 + l.length * (2^22 + 64) := by
 unfold encL
 split
 ·simp
 ·rw [List.length_append]
  have := flat_len h
  have : z12.length = 12 := rfl
  omega
theorem spec22 {ops : Sl} {l : List OpM} {R w} {K : Option Addr × Bool -> WP} (hl : ∀ o ∈ l, OpOK o) (hn : l.length <= 512) (hops : OpsIn R ops l) (h : Sat w R) (k : ∀ b w', BtSat b (encL l) l.length R w' -> K (some b, true) w') : F22 ops K w := by
 unfold F22
 refine NewP_run h fun b w h => ?_
 have h0 : BtSat b (encL (l.take 0)) 0 R w := ⟨⟨⟨none, 0, 0⟩, 0, 0, 0, 0, ⟨none, 0, 0⟩, ⟨none, 0, 0⟩, 0, 0⟩, .inl ⟨rfl, rfl⟩, rfl, (h.bufNil 1).mv 1⟩
 refine ⟨fun m (z : Int) w => ∃ i : Nat, z = i /\ i <= l.length /\ m = l.length - i /\ BtSat b (encL (l.take i)) i R w, ⟨_, 0, rfl, Nat.zero_le _, rfl, h0⟩, ?_⟩
 clear h h0
 rintro m z w ⟨i, rfl, hi, hm, h⟩
 refine ifd (fun hlt => ?_) (fun hge => ?_)
 ·rw [hops.1] at hlt
  have hil : i < l.length := by omega
  have ho : l[i]? = some l[i] := List.getElem?_eq_getElem hil
  obtain ⟨e, he, hr⟩ := hops.2 w h.frame i _ ho
  have hm := List.getElem_mem hil
  have htake : l.take (i + 1) = l.take i ++ [l[i]] := by rw [List.take_add_one, ho]; rfl
  generalize l[i] = o at ho hr hm htake
  rw [Int.toNat_natCast]
  refine ⟨⟨by omega, by rw [hops.1]; omega⟩, e, he, ?_⟩
  unfold oc at hr
  refine LdR hr ?_
  obtain ⟨t, ht, hc, h⟩ := h
  refine NewP_run h fun n7 w h => StL_of (St1 h rfl fun w h => St1 h rfl fun w h => St1 h rfl fun w h => St1 h rfl fun w h => St1 h rfl fun w h => St1 h rfl fun w h => LdN h ?_)
  have hb : BtSat b (encL (l.take i)) i (Arr n7 [.int .u8 (o.kind : Int), .string o.key, .string o.val, .string o.end_, .string o.suf, .int .u32 (o.size : Int)] :: R) w := ⟨t, ht, hc, h.pt 2⟩
  clear h
  have hsz := encL_len (l := l.take i) fun x hx => hl x (List.mem_of_mem_take hx)
  rw [List.length_take] at hsz
  have hsz2 : min i l.length * (2^22 + 64) <= 512 * (2^22 + 64) := Nat.mul_le_mul om (Nat.le_refl _)
  refine call43 (spec43 (hl o hm) om om hb fun w hb => ?_)
  have ew : IntKind.i64.wrap ((i : Int) + 1) = ((i + 1 : Nat) : Int) := w1 om
  rw [ew]
  refine ⟨l.length - (i + 1), by omega, i + 1, rfl, by omega, rfl, ?_⟩
  rw [htake, encL_snoc]
  exact hb.drop
 ·rw [hops.1] at hge
  have : i = l.length := by omega
  subst this
  rw [List.take_length] at h
  exact k b w h
structure Cont (D : Hp) (x : Sl) (l : List Nat) : Prop where
 n : x.n = l.length
 nc : x.n <= x.c
 sm : x.a.isSome = true
 get : ∀ (j y : Nat), l[j]? = some y -> ∃ e, x.a = some e /\ DAt D (e.add j) (.int .u8 (y : Int))
theorem Cont.mono {D D' : Hp} (hd : D.le D') {x : Sl} {l : List Nat} (h : Cont D x l) : Cont D' x l := ⟨h.n, h.nc, h.sm, fun j y e => (h.get j y e).imp fun _ g => ⟨g.1, g.2.mono hd⟩⟩
theorem Cont.sub {D} {x : Sl} {l : List Nat} {p q : Nat} (h : Cont D x l) (hp : p <= q) (hq : q <= x.n) : Cont D ⟨(sub x.a 1 p q x.c).a, q - p, x.c - p⟩ ((l.drop p).take (q - p)) := by
 have h1 := h.n
 have h2 := h.nc
 obtain ⟨e, he⟩ := Option.isSome_iff_exists.1 h.sm
 refine ⟨by rw [List.length_take, List.length_drop]; dsimp only; omega, by dsimp only; omega, ?_, fun j y hj => ?_⟩
 ·rw [he]; unfold Go.Tr.sub; split <;> rfl
 ·rw [List.getElem?_take] at hj
  split at hj
  ·rename_i hlt
   rw [List.getElem?_drop] at hj
   obtain ⟨e', he', hd⟩ := h.get _ _ hj
   rw [he] at he'
   injection he' with he'
   subst he'
   refine ⟨e.add p, ?_, ?_⟩
   ·dsimp only; rw [he]; exact subA om
   ·rw [Addr.add_add]; exact hd
  ·cases hj
theorem Cont.tail {D} {x : Sl} {l : List Nat} {p : Nat} (h : Cont D x l) (hp : p <= x.n) : Cont D ⟨(Go.Tr.sub x.a 1 p x.n x.c).a, x.n - p, x.c - p⟩ (l.drop p) := by
 have h1 := h.sub (p := p) (q := x.n) hp (Nat.le_refl _)
 rwa [List.take_of_length_le (by rw [List.length_drop, h.n]; exact Nat.le_refl _)] at h1
theorem and127 : ∀ y : Fin 256, IntKind.u8.wrap ((BitVec.ofInt IntKind.u8.bits (y.val : Int) &&& BitVec.ofInt IntKind.u8.bits (127 : Int)).toNat : Int) = ((y.val % 128 : Nat) : Int) := by decide +kernel
theorem and7 {n : Nat} : IntKind.u8.wrap ((BitVec.ofInt IntKind.u8.bits ((n % 128 + 128 : Nat) : Int) &&& BitVec.ofInt IntKind.u8.bits (127 : Int)).toNat : Int) = ((n % 128 : Nat) : Int) := by
 rw [and127 ⟨n % 128 + 128, by omega⟩]
 show (((n % 128 + 128) % 128 : Nat) : Int) = _
 congr 1; omega
theorem wu32n {n : Nat} (h : n < 2^32) : IntKind.u32.wrap (n : Int) = (n : Int) := wu32 om om
theorem or32 {a b k : Nat} (hb : b < 2^k) (h : a * 2^k < 2^32) (hk : k <= 32) : IntKind.u32.wrap ((BitVec.ofInt IntKind.u32.bits ((a * 2^k : Nat) : Int) ||| BitVec.ofInt IntKind.u32.bits (b : Int)).toNat : Int) = ((a * 2^k + b : Nat) : Int) := by
 have hb32 : b < 2^32 := Nat.lt_of_lt_of_le hb (Nat.pow_le_pow_right om hk)
 show IntKind.u32.wrap (((BitVec.ofInt 32 ((a * 2^k : Nat) : Int) ||| BitVec.ofInt 32 (b : Int)).toNat : Nat) : Int) = _
 rw [BitVec.toNat_or, BitVec.ofInt_natCast, BitVec.ofInt_natCast, BitVec.toNat_ofNat, BitVec.toNat_ofNat, Nat.mod_eq_of_lt h, Nat.mod_eq_of_lt hb32]
 have e : a * 2^k ||| b = a * 2^k + b := by
  rw [<- Nat.shiftLeft_eq]
  exact (Nat.shiftLeft_add_eq_or_of_lt hb a).symm
 rw [e]
 refine wu32n ?_
 have h1 : a < 2^(32 - k) := by
  refine Nat.lt_of_mul_lt_mul_right (a := 2^k) ?_
  rw [<- Nat.pow_add, show 32 - k + k = 32 by omega]; exact h
 calc a * 2^k + b < a * 2^k + 2^k := by omega
  _ = (a + 1) * 2^k := by rw [Nat.succ_mul]
  _ <= 2^(32 - k) * 2^k := Nat.mul_le_mul_right _ h1
  _ = 2^32 := by rw [<- Nat.pow_add, show 32 - k + k = 32 by omega]
theorem shl32 {n k : Nat} (h : n * 2^k < 2^32) (hk : k <= 32) (hn : n < 2^32) : IntKind.u32.wrap ((IntKind.u32.wrap (n : Int)) * 2 ^ (min k IntKind.u32.bits)) = ((n * 2^k : Nat) : Int) := by
 rw [wu32n hn, show min k IntKind.u32.bits = k from Nat.min_eq_left hk]
 have : (n : Int) * 2 ^ k = ((n * 2^k : Nat) : Int) := by rw [Int.natCast_mul, Int.natCast_pow]; rfl
 rw [this]
 exact wu32n h
theorem Cont.byte {D} {x : Sl} {l : List Nat} {L R w} {j y : Nat} {K : Int -> WP} (hc : Cont D x l) (h : Sat w L) (t : Take L (Own D) R) (e : l[j]? = some y) (k : K (y : Int) w) : ∃ e4, x.a = some e4 /\ Ld (.one (.int .u8)) (e4.add (j * 1)) K w := by
 obtain ⟨e4, he, hd⟩ := hc.get j y e
 refine ⟨e4, he, ?_⟩
 rw [Nat.mul_one]
 exact LdC (h.dat t hd) k
theorem spec130 {D} {x : Sl} {m : Nat} {str rest : List Nat} {L R w} {K : Sl × Sl × Bool -> WP} (hm : m < 2^28) (hs : str.length = m) (hc : Cont D x (vi m ++ (str ++ rest))) (hn : x.n < 2^32) (h : Sat w L) (t : Take L (Own D) R)
  (k : ∀ (r y : Sl) w', Cont D r rest -> r.c = x.c - (vi m).length - m -> Cont D y str -> y.c = x.c - (vi m).length -> Sat w' L -> K (r, y, true) w') : F130 x K w := by
 have hl := hc.n
 rw [List.length_append, List.length_append, hs] at hl
 have hnc := hc.nc
 unfold F130
 refine ⟨fun z w => z = ((m : Int), ((vi m).length : Int)) /\ Sat w L, ?_, ?_⟩
 ·rintro z w ⟨rfl, h⟩
  dsimp only
  rw [Int.toNat_natCast, Int.toNat_natCast]
  refine ⟨⟨by omega, by omega⟩, ifd (fun hh => absurd hh ?_) fun _ => ⟨⟨by omega, by omega⟩, ⟨by omega, by omega⟩, ?_⟩⟩
  ·rw [wu32n om]; omega
  ·have c1 := hc.tail (p := (vi m).length) om
   rw [List.drop_left' rfl] at c1
   have c2 := c1.tail (p := m) (by dsimp only; omega)
   rw [List.drop_left' hs] at c2
   have c3 := hc.sub (p := (vi m).length) (q := (vi m).length + m) om om
   rw [List.drop_left' rfl, show (vi m).length + m - (vi m).length = m by omega, List.take_left' hs] at c3
   exact k _ _ _ c2 rfl c3 rfl h.near
 ·by_cases h1 : m < 128
  ·have e := vi_lt h1
   rw [e] at hc hl |-
   simp only [List.length_singleton] at hl |-
   refine ⟨⟨by omega, by omega⟩, hc.byte h t (j := 0) rfl (ifd (fun _ => ⟨?_, h⟩) fun hh => absurd om hh)⟩
   rw [wu32n om]; rfl
  have e := vi_ge h1
  by_cases h2 : m / 128 < 128
  ·rw [e, vi_lt h2] at hc hl |-
   simp only [List.length_cons, List.length_nil] at hl |-
   refine ⟨⟨by omega, by omega⟩, hc.byte h t (j := 0) rfl (ifd (fun hh => absurd hh om) fun _ => ⟨⟨by omega, by omega⟩, hc.byte h.near t (j := 1) rfl (ifd (fun _ => ⟨by omega, ?_, h.near⟩) fun hh => absurd om hh)⟩)⟩
   rw [and7, wu32n (n := m % 128) om, shl32 om om om, or32 om om om]
   congr 2; omega
  have e2 := vi_ge h2
  by_cases h3 : m / 128 / 128 < 128
  ·rw [e, e2, vi_lt h3] at hc hl |-
   simp only [List.length_cons, List.length_nil] at hl |-
   refine ⟨⟨by omega, by omega⟩, hc.byte h t (j := 0) rfl (ifd (fun hh => absurd hh om) fun _ => ⟨⟨by omega, by omega⟩, hc.byte h.near t (j := 1) rfl (ifd (fun hh => absurd hh om) fun _ => ⟨⟨by omega, by omega⟩, hc.byte h.near t (j := 2) rfl (ifd (fun _ => ⟨by omega, by omega, ?_, h.near⟩) fun hh => absurd om hh)⟩)⟩)⟩
   rw [and7, and7, wu32n (n := m % 128) om, shl32 (n := m / 128 / 128) (k := 14) om om om, shl32 (n := m / 128 % 128) (k := 7) om om om, or32 (a := m / 128 / 128) (k := 14) om om om,
    show m / 128 / 128 * 2^14 + m / 128 % 128 * 2^7 = m / 128 * 2^7 by omega, or32 (a := m / 128) (k := 7) om om om]
   congr 2; omega
  ·have e3 := vi_ge h3
   rw [e, e2, e3, vi_lt (n := m / 128 / 128 / 128) om] at hc hl |-
   simp only [List.length_cons, List.length_nil] at hl |-
   refine ⟨⟨by omega, by omega⟩, hc.byte h t (j := 0) rfl (ifd (fun hh => absurd hh om) fun _ => ⟨⟨by omega, by omega⟩, hc.byte h.near t (j := 1) rfl (ifd (fun hh => absurd hh om) fun _ => ⟨⟨by omega, by omega⟩, hc.byte h.near t (j := 2) rfl (ifd (fun hh => absurd hh om) fun _ => ⟨⟨by omega, by omega⟩, hc.byte h.near t (j := 3) rfl (ifd (fun _ => ⟨by omega, by omega, by omega, ?_, h.near⟩) fun hh => absurd om hh)⟩)⟩)⟩)⟩
   rw [and7, and7, and7, wu32n (n := m % 128) om, shl32 (n := m / 128 / 128 / 128) (k := 21) om om om, shl32 (n := m / 128 / 128 % 128) (k := 14) om om om, shl32 (n := m / 128 % 128) (k := 7) om om om, or32 (a := m / 128 / 128 / 128) (k := 21) om om om,
    show m / 128 / 128 / 128 * 2^21 + m / 128 / 128 % 128 * 2^14 = m / 128 / 128 * 2^14 by omega, or32 (a := m / 128 / 128) (k := 14) om om om,
    show m / 128 / 128 * 2^14 + m / 128 % 128 * 2^7 = m / 128 * 2^7 by omega, or32 (a := m / 128) (k := 7) om om om]
   congr 2; omega
theorem wu64n {n : Nat} (h : n < 2^64) : IntKind.u64.wrap (n : Int) = (n : Int) := wu64 om om
theorem or64 {a b k : Nat} (hb : b < 2^k) (h : a * 2^k + b < 2^64) (hk : k <= 64) : IntKind.u64.wrap ((BitVec.ofInt IntKind.u64.bits (b : Int) ||| BitVec.ofInt IntKind.u64.bits ((a * 2^k : Nat) : Int)).toNat : Int) = ((a * 2^k + b : Nat) : Int) := by
 show IntKind.u64.wrap (((BitVec.ofInt 64 (b : Int) ||| BitVec.ofInt 64 ((a * 2^k : Nat) : Int)).toNat : Nat) : Int) = _
 rw [BitVec.toNat_or, BitVec.ofInt_natCast, BitVec.ofInt_natCast, BitVec.toNat_ofNat, BitVec.toNat_ofNat, Nat.mod_eq_of_lt (a := b) om, Nat.mod_eq_of_lt (a := a * 2^k) om, Nat.or_comm]
 have e : a * 2^k ||| b = a * 2^k + b := by
  rw [<- Nat.shiftLeft_eq]
  exact (Nat.shiftLeft_add_eq_or_of_lt hb a).symm
 rw [e]
 exact wu64n h
theorem shl64 {n k : Nat} (h : n * 2^k < 2^64) (hk : k <= 64) (hn : n < 2^64) : IntKind.u64.wrap ((IntKind.u64.wrap (n : Int)) * 2 ^ (min k IntKind.u64.bits)) = ((n * 2^k : Nat) : Int) := by
 rw [wu64n hn, show min k IntKind.u64.bits = k from Nat.min_eq_left hk]
 have : (n : Int) * 2 ^ k = ((n * 2^k : Nat) : Int) := by rw [Int.natCast_mul, Int.natCast_pow]; rfl
 rw [this]
 exact wu64n h
theorem spec138 {D} {x : Sl} {m : Nat} {rest : List Nat} {L R w} {K : Int × Int -> WP} (hm : m < 2^28) (hc : Cont D x (vi m ++ rest)) (hn : x.n < 2^40) (h : Sat w L) (t : Take L (Own D) R) (k : Sat w L -> K ((m : Int), ((vi m).length : Int)) w) : F138 x K w := by
 have hl := hc.n
 rw [List.length_append] at hl
 have h4 := vi_len4 hm
 unfold F138
 refine ⟨fun M (z : Int × Int × Int) w' => w' = w /\ ∃ (done : List Nat) (y lo : Nat), z = ((lo : Int), ((7 * done.length : Nat) : Int), (done.length : Int)) /\ vi m = done ++ vi y /\ m = y * 2^(7 * done.length) + lo /\ lo < 2^(7 * done.length) /\ M = y, ⟨_, rfl, [], m, 0, rfl, rfl, by simp, by simp, rfl⟩, ?_⟩
 rintro M z w' ⟨rfl, done, y, lo, rfl, hv, hmy, hlo, hM⟩
 have hp := vi_pos y
 have hl2 : (vi m).length = done.length + (vi y).length := by rw [hv, List.length_append]
 have hym : y <= m := by
  have : 1 <= 2^(7 * done.length) := Nat.one_le_two_pow
  have := Nat.le_mul_of_pos_right y this
  omega
 have hd3 : done.length <= 3 := by omega
 have hp2 : 2^(7 * done.length) <= 2^21 := Nat.pow_le_pow_right om om
 dsimp only
 rw [Int.toNat_natCast]
 refine ifd (fun _ => ?_) (fun hh => absurd om hh)
 refine ⟨⟨by omega, by omega⟩, ?_⟩
 by_cases hy : y < 128
 ·have ev := vi_lt hy
  have hb : (vi m ++ rest)[done.length]? = some y := by rw [hv, ev]; simp
  refine hc.byte h t hb (ife (fun hh => absurd hh om) fun _ => ifd (fun _ => ife (fun hh => absurd hh om) fun _ => ⟨by omega, ?_⟩) fun hh => absurd om hh)
  rw [Int.toNat_natCast, shl64 (by have := Nat.mul_le_mul (show y <= 127 by omega) hp2; omega) om om, or64 hlo om om, <- hmy, w1 om]
  rw [ev] at hl2
  rw [show done.length + 1 = (vi m).length from hl2.symm]
  exact k h
 ·have ev := vi_ge hy
  have hb : (vi m ++ rest)[done.length]? = some (y % 128 + 128) := by rw [hv, ev]; simp
  refine hc.byte h t hb (ife (fun hh => absurd hh om) fun _ => ifd (fun hh => absurd hh om) fun _ => ⟨by omega, ?_⟩)
  have e7 : y % 128 * 2^(7 * done.length) + lo < 2^(7 * done.length) * 128 := by
   have h1 := Nat.mul_le_mul_right (2^(7 * done.length)) (show y % 128 <= 127 by omega)
   omega
  have ep : 2^(7 * (done.length + 1)) = 2^(7 * done.length) * 128 := by rw [Nat.mul_succ, Nat.pow_add]
  rw [and7, Int.toNat_natCast, shl64 om om om, or64 hlo om om, w1 om, wu64 om om]
  refine ⟨y / 128, by omega, rfl, done ++ [y % 128 + 128], y / 128, y % 128 * 2^(7 * done.length) + lo, ?_, ?_, ?_, ?_, rfl⟩
  ·rw [List.length_append, List.length_singleton]
   congr 2
  ·rw [hv, ev, List.append_assoc]; rfl
  ·rw [List.length_append, List.length_singleton, ep, hmy]
   have : y = y / 128 * 128 + y % 128 := by omega
   generalize 2^(7 * done.length) = P at *
   have e9 : y * P = (y / 128) * (P * 128) + (y % 128) * P := by
    conv => lhs; rw [this]
    rw [Nat.add_mul, Nat.mul_assoc, Nat.mul_comm 128 P]
   omega
  ·rw [List.length_append, List.length_singleton, ep]; exact e7
theorem Cont.bytes {D} {y : Sl} {s : ByteArray} (h : Cont D y (bl s)) : BytesAt D y s := by
 obtain ⟨a, n, c⟩ := y
 obtain ⟨e, he⟩ := Option.isSome_iff_exists.1 h.sm
 dsimp only at he
 subst he
 have hn := h.n
 rw [bl_len] at hn
 refine ⟨hn.symm, fun j v hv => ?_⟩
 rw [bytesOf_bl] at hv
 unfold nb at hv
 rw [List.getElem?_map] at hv
 cases e1 : (bl s)[j]? with
 | none => rw [e1] at hv; cases hv
 | some y =>
  rw [e1] at hv
  injection hv with hv
  obtain ⟨e', he', hd⟩ := h.get j y e1
  injection he' with he'
  subst he'
  rw [<- hv]; exact hd
theorem spec142 {D} {x : Sl} {e : ByteArray} {rest : List Nat} {L R w} {K : Sl × Sl × Bool -> WP} (he : e.size < 2^28) (hc : Cont D x (vb e ++ rest)) (hn : x.n < 2^40) (h : Sat w L) (t : Take L (Own D) R)
  (k : ∀ y r w', Cont D y (bl e) -> Cont D r rest -> Sat w' L -> K (y, r, true) w') : F142 x K w := by
 have hv := vi_pos e.size
 have hl := hc.n
 rw [List.length_append, vb_len] at hl
 have hnc := hc.nc
 have hc' := hc
 unfold vb at hc'
 rw [List.append_assoc] at hc'
 unfold F142
 refine call138 (spec138 he hc' hn h t fun h => ifd (fun hh => absurd hh (by dsimp only; omega)) fun _ => ?_)
 have e1 : IntKind.i64.wrap (((vi e.size).length : Int) + IntKind.i64.wrap (e.size : Int)) = (((vi e.size).length + e.size : Nat) : Int) := by
  rw [wi64 (x := (e.size : Int)) om om, wi64 om om]; omega
 dsimp only
 rw [e1, Int.toNat_natCast, Int.toNat_natCast]
 refine ⟨⟨by omega, by omega, by omega⟩, ⟨by omega, by omega⟩, ?_⟩
 have c1 := hc.tail (p := (vi e.size).length + e.size) om
 rw [List.drop_left' (vb_len e)] at c1
 have c3 := hc'.sub (p := (vi e.size).length) (q := (vi e.size).length + e.size) om om
 rw [List.drop_left' rfl, show (vi e.size).length + e.size - (vi e.size).length = e.size by omega, List.take_left' (bl_len e)] at c3
 have e2 : (vi e.size).length + e.size - (vi e.size).length = e.size := by omega
 rw [e2]
 exact k _ _ _ c3 c1 h.near
theorem spec106 {D} {x : Sl} {e : ByteArray} {rest : List Nat} {L R w} {K : Sl × Sl × Bool -> WP} (he : e.size < 2^28) (hc : Cont D x (vb e ++ rest)) (hn : x.n < 2^40) (h : Sat w L) (t : Take L (Own D) R)
  (k : ∀ y r w', Cont D y (bl e) -> Cont D r rest -> Sat w' L -> K (y, r, true) w') : F106 x K w := by
 unfold F106
 exact call142 (spec142 he hc hn h t k)
theorem spec105 {D} {x : Sl} {e s : ByteArray} {rest : List Nat} {L R w} {K : (Sl × Sl) × Sl × Bool -> WP} (he : e.size < 2^28) (hs : s.size < 2^28) (hc : Cont D x (vb e ++ (vb s ++ rest))) (hn : x.n < 2^40) (h : Sat w L) (t : Take L (Own D) R)
  (k : ∀ y z r w', Cont D y (bl e) -> Cont D z (bl s) -> Cont D r rest -> Sat w' L -> K ((y, z), r, true) w') : F105 x K w := by
 unfold F105
 refine NewP_run h fun n2 w h => ?_
 refine call142 (spec142 he hc hn h (.there t) fun y r w c1 c2 h => ?_)
 dsimp only
 refine St1 h rfl fun w h => ifn (fun hh => nomatch hh) fun _ => ?_
 have hr : r.n < 2^40 := by
  have h1 := c2.n; have h2 := hc.n
  rw [List.length_append] at h2
  omega
 refine call142 (spec142 hs c2 hr h (.there t) fun z r w c3 c4 h => ?_)
 dsimp only
 refine St1 h rfl fun w h => ifn (fun hh => nomatch hh) fun _ => LdN h (StL_of (St1 h rfl fun w h => St1 h rfl fun w h => LdN h ?_))
 exact k _ _ _ w c1 c3 c4 h.tail
theorem spec102 {D} {x : Sl} {kind : Nat} {e : ByteArray} {rest : List Nat} {L R w} {K : Sl × Sl × Bool -> WP} (hk : kind = 20 \/ kind = 21) (he : e.size < 2^28) (hr : 0 < rest.length) (hc : Cont D x (vb e ++ rest)) (hn : x.n < 2^40) (h : Sat w L) (t : Take L (Own D) R)
  (k : ∀ y r w', Cont D y (bl e) -> Cont D r rest -> Sat w' L -> K (y, r, true) w') : F102 (kind : Int) x K w := by
 have hv := vi_pos e.size
 have hl := hc.n
 rw [List.length_append, vb_len] at hl
 have hnc := hc.nc
 have hc' := hc
 unfold vb at hc'
 rw [List.append_assoc] at hc'
 have body : ∀ w, Sat w L -> CallF Tryz.prog 138 [.slice x.a x.n x.c] [(.one (.int .u64)), (.one (.int .i64))] (fun (r5 : Int × Int) w => Tr.Join (fun (s6 : Unit) w => (0 <= r5.2 /\ r5.2 <= (IntKind.i64.wrap (r5.2 + (IntKind.i64.wrap r5.1))) /\ (IntKind.i64.wrap (r5.2 + (IntKind.i64.wrap r5.1))) <= (x.c : Int)) /\ (0 <= (IntKind.i64.wrap (r5.2 + (IntKind.i64.wrap r5.1))) /\ (IntKind.i64.wrap (r5.2 + (IntKind.i64.wrap r5.1))) <= (x.n : Int)) /\ K (⟨(sub x.a 1 r5.2.toNat ((IntKind.i64.wrap (r5.2 + (IntKind.i64.wrap r5.1))).toNat) x.c).a, ((IntKind.i64.wrap (r5.2 + (IntKind.i64.wrap r5.1))).toNat - r5.2.toNat), (x.c - r5.2.toNat)⟩, ⟨(sub x.a 1 ((IntKind.i64.wrap (r5.2 + (IntKind.i64.wrap r5.1))).toNat) x.n x.c).a, (x.n - (IntKind.i64.wrap (r5.2 + (IntKind.i64.wrap r5.1))).toNat), (x.c - (IntKind.i64.wrap (r5.2 + (IntKind.i64.wrap r5.1))).toNat)⟩, true) w.drew) (fun J_7 => (if (decide (r5.2 <= (0 : Int))) = false then (if (decide ((IntKind.u64.wrap ((IntKind.u64.wrap r5.2) + r5.1)) >= (IntKind.u64.wrap (x.n : Int)))) = true then K (⟨none, 0, 0⟩, ⟨none, 0, 0⟩, false) w else J_7 () w) else K (⟨none, 0, 0⟩, ⟨none, 0, 0⟩, false) w))) w := by
  intro w h
  refine call138 (spec138 he hc' hn h t fun h => ?_)
  have e1 : IntKind.i64.wrap (((vi e.size).length : Int) + IntKind.i64.wrap (e.size : Int)) = (((vi e.size).length + e.size : Nat) : Int) := by
   rw [wi64 (x := (e.size : Int)) om om, wi64 om om]; omega
  have h4 := vi_len4 he
  dsimp only
  rw [e1, Int.toNat_natCast, Int.toNat_natCast, wu64n (n := x.n) om, wu64n (n := (vi e.size).length) om]
  refine ⟨fun _ w => Sat w L, ?_, ifdf (fun hh => absurd hh om) fun _ => ifd (fun hh => absurd hh ?_) fun _ => h⟩
  ·intro _ w h
   refine ⟨⟨by omega, by omega, by omega⟩, ⟨by omega, by omega⟩, ?_⟩
   have c1 := hc.tail (p := (vi e.size).length + e.size) om
   rw [List.drop_left' (vb_len e)] at c1
   have c3 := hc'.sub (p := (vi e.size).length) (q := (vi e.size).length + e.size) om om
   rw [List.drop_left' rfl, show (vi e.size).length + e.size - (vi e.size).length = e.size by omega, List.take_left' (bl_len e)] at c3
   have e2 : (vi e.size).length + e.size - (vi e.size).length = e.size := by omega
   rw [e2]
   exact k _ _ _ c3 c1 h.near
  ·rw [wu64 om om]; omega
 unfold F102
 rcases hk with rfl | rfl
 ·exact ife (fun hh => absurd hh (by decide)) fun _ => ⟨fun b w => b = true /\ Sat w L, fun b w ⟨hb, h⟩ => by subst hb; exact body w h, ⟨rfl, h⟩⟩
 ·exact ife (fun hh => absurd hh (by decide)) fun _ => ⟨fun b w => b = true /\ Sat w L, fun b w ⟨hb, h⟩ => by subst hb; exact body w h, ⟨rfl, h⟩⟩
theorem spec102d {x : Sl} {w} {K : Sl × Sl × Bool -> WP} (k : K (x, ⟨none, 0, 0⟩, true) w) : F102 ((19 : Nat) : Int) x K w := by
 unfold F102
 exact ife (fun _ => k) (fun hh => absurd rfl hh)
end Go.Proofs.YtpkoddfamelnhaaGreatDoor
namespace Go.Tr
theorem SameI.perm {α : Type} {n : Nat} {d d' : Nat -> α} (h : SameI 0 n d d') : ((List.range n).map d').Perm ((List.range n).map d) := by
 obtain ⟨σ, τ, h1, h2, h3, h4, h5⟩ := h
 have e : (List.range n).map d' = ((List.range n).map σ).map d := by
  rw [List.map_map]
  exact List.map_congr_left fun j _ => h5 j
 rw [e]
 refine List.Perm.map d ?_
 refine (List.perm_ext_iff_of_nodup ?_ List.nodup_range).2 fun x => ?_
 ·show List.Pairwise _ _
  rw [List.pairwise_map]
  refine (List.nodup_range (n := n)).imp fun {a b} hab e => hab ?_
  have := congrArg τ e
  rwa [h2, h2] at this
 ·simp only [List.mem_map, List.mem_range]
  constructor
  ·rintro ⟨j, hj, rfl⟩; exact (h3 j (Nat.zero_le _) hj).2
  ·intro hx
   refine ⟨τ x, ?_, h1 x⟩
   rcases Nat.lt_or_ge (τ x) n with h | h
   ·exact h
   ·have := h4 (τ x) (.inr h); rw [h1] at this; omega
theorem range_getD {α : Type} (d0 : α) : ∀ (l : List α), (List.range l.length).map (fun j => l.getD j d0) = l := by
 intro l
 refine List.ext_getElem (by simp) fun i h1 h2 => ?_
 simp only [List.getElem_map, List.getElem_range, List.getD_eq_getElem?_getD]
 rw [List.getElem?_eq_getElem h2]; rfl
theorem rowSt {w} {a : Addr} {k n j i : Nat} {f : Nat -> List Value} {L} {v x : Value} {K : WP} (h : Sat w (Rws a k n f :: L)) (hj : j < n) (e : (f j)[i]? = some v) (h1 : x.oneCell' = true)
  (c : ∀ w', Sat w' (Rws a k n (upd f j ((f j).set i x)) :: L) -> K w') : St ((a.add (j * k)).add i) x K w := by
 have h2 := h.fam_out (i := j) hj
 have hat := at_arr (p := a.add (j * k)) e
 refine ⟨h1, ⟨_, (h2.get hat).1⟩, (h2.get hat).2, c _ ?_⟩
 have h3 := (h2.set hat x).fam_in hj
 unfold Rws
 rw [Fam.congr (d := fun i' => Arr (a.add (i' * k)) (upd f j ((f j).set i x) i'))] at h3
 ·exact h3
 ·intro i' _
  by_cases e : i' = j
  ·subst e; rw [upd_same, upd_same]
  ·rw [upd_other e, upd_other e]
end Go.Tr
namespace Go.Proofs.YtpkoddfamelnhaaGreatDoor
open Go Go.Tr
set_option maxRecDepth 100000
def keysOf (l : List SpanM) (y : ByteArray) : List KeyM := match covs l y with | some s => s.keys | none => []
def covK (ss : List SpanM) (y : ByteArray) : List KeyM := (ss.filter fun s => decide (bcmp s.lo y <= 0) && decide (bcmp y s.hi < 0)).flatMap (·.keys)
theorem covK_app (a b : List SpanM) (y : ByteArray) : covK (a ++ b) y = covK a y ++ covK b y := by unfold covK; rw [List.filter_append, List.flatMap_append]
theorem SpansOK.app {a b : List SpanM} {t : ByteArray} (ha : SpansOK a) (hb : SpansOK b) (h1 : ∀ f ∈ a, bcmp f.hi t <= 0) (h2 : ∀ f ∈ b, bcmp t f.lo <= 0) : SpansOK (a ++ b) := by
 refine ⟨fun j s e => ?_, fun i j x y hij ex ey => ?_, fun s hs => ?_⟩
 ·rcases List.mem_append.1 (List.mem_of_getElem? e) with h | h
  ·obtain ⟨i, hi⟩ := List.getElem?_of_mem h; exact ha.ne i s hi
  ·obtain ⟨i, hi⟩ := List.getElem?_of_mem h; exact hb.ne i s hi
 ·by_cases hj : j < a.length
  ·rw [List.getElem?_append_left hj] at ey
   rw [List.getElem?_append_left om] at ex
   exact ha.so i j x y hij ex ey
  ·rw [List.getElem?_append_right om] at ey
   by_cases hi : i < a.length
   ·rw [List.getElem?_append_left hi] at ex
    exact bcmp_trans (h1 x (List.mem_of_getElem? ex)) (h2 y (List.mem_of_getElem? ey))
   ·rw [List.getElem?_append_right om] at ex
    exact hb.so _ _ x y (show i - a.length < j - a.length by omega) ex ey
 ·rcases List.mem_append.1 hs with h | h
  ·exact ha.sz s h
  ·exact hb.sz s h
theorem SpansOK.nil : SpansOK [] := ⟨fun j s e => by simp at e, fun i j x y _ e => by simp at e, fun s hs => by simp at hs⟩
theorem SpansOK.one {s : SpanM} (h : bcmp s.lo s.hi < 0) (hz : s.lo.size < 2^40 /\ s.hi.size < 2^40) : SpansOK [s] := by
 refine ⟨fun j x e => ?_, fun i j x y hij ex ey => ?_, fun x hx => ?_⟩
 ·have := List.mem_of_getElem? e
  simp only [List.mem_singleton] at this
  rw [this]; exact h
 ·have h2 := (List.getElem?_eq_some_iff.1 ey).1
  simp only [List.length_singleton] at h2
  omega
 ·simp only [List.mem_singleton] at hx
  rw [hx]; exact hz
theorem covs_below {l : List SpanM} {y : ByteArray} (h : ∀ f ∈ l, bcmp y f.lo < 0) : covs l y = none := covs_none fun j s e g => absurd g.1 (not_le_b.2 (h s (List.mem_of_getElem? e)))
theorem covs_above {l : List SpanM} {y : ByteArray} (h : ∀ f ∈ l, bcmp f.hi y <= 0) : covs l y = none := covs_none fun j s e g => absurd g.2 (not_lt_b.2 (h s (List.mem_of_getElem? e)))
theorem covs_app (a b : List SpanM) (y : ByteArray) : covs (a ++ b) y = (covs a y).or (covs b y) := by unfold covs; rw [List.find?_append]
theorem keysOf_lt {a b : List SpanM} {t y : ByteArray} (h2 : ∀ f ∈ b, bcmp t f.lo <= 0) (hy : bcmp y t < 0) : keysOf (a ++ b) y = keysOf a y := by
 unfold keysOf
 rw [covs_app, covs_below (l := b) fun f hf => bcmp_lt_le hy (h2 f hf), Option.or_none]
theorem keysOf_ge {a b : List SpanM} {t y : ByteArray} (h1 : ∀ f ∈ a, bcmp f.hi t <= 0) (hy : bcmp t y <= 0) : keysOf (a ++ b) y = keysOf b y := by
 unfold keysOf
 rw [covs_app, covs_above (l := a) fun f hf => bcmp_trans (h1 f hf) hy, Option.none_or]
theorem keysOf_one {s : SpanM} {y : ByteArray} (h1 : bcmp s.lo y <= 0) (h2 : bcmp y s.hi < 0) : keysOf [s] y = s.keys := by
 unfold keysOf covs
 simp [h1, h2]
structure Flushed (x : ByteArray) (ps fl : List SpanM) (t : ByteArray) : Prop where
 ok : SpansOK fl
 lo : ∀ f ∈ fl, bcmp x f.lo <= 0
 hi : ∀ f ∈ fl, bcmp f.hi t <= 0
 ks : ∀ y, bcmp x y <= 0 -> (keysOf fl y).Perm ((ps.filter fun p => decide (bcmp y p.hi < 0)).flatMap (·.keys))
theorem m328Len : MethAt Tryz.prog 328 "Len" 300 := by intro v w; kernel_rfl
theorem m328Less : MethAt Tryz.prog 328 "Less" 301 := by intro v w; kernel_rfl
theorem m328Swap : MethAt Tryz.prog 328 "Swap" 302 := by intro v w; kernel_rfl
def spRows (D : Hp) (a : Addr) (n : Nat) (d : Nat -> SpC × SpanM) : Chunk := fun g => (∀ j, j < n -> SpRel D (d j).1 (d j).2) /\ Rws a 4 n (fun j => spc (d j).1) g
theorem spOpen {D} {a : Addr} {n : Nat} {d : Nat -> SpC × SpanM} {L w} (h : Sat w (spRows D a n d :: L)) : (∀ j, j < n -> SpRel D (d j).1 (d j).2) /\ Sat w (Rws a 4 n (fun j => spc (d j).1) :: L) := by
 obtain ⟨g, ⟨h1, hc⟩, hg⟩ := h
 exact ⟨h1, g, hc, hg⟩
theorem spShut {D} {a : Addr} {n : Nat} {d : Nat -> SpC × SpanM} {L w} (h1 : ∀ j, j < n -> SpRel D (d j).1 (d j).2) (h : Sat w (Rws a 4 n (fun j => spc (d j).1) :: L)) : Sat w (spRows D a n d :: L) := h.cons fun _ hc => ⟨h1, hc⟩
def endI (D : Hp) (v a : Addr) (s : Sl) (ha : 0 < s.n -> s.a = some a) (hn : s.n < 2^60) : SortI (SpC × SpanM) where
 v := .mk 328 (.pointer (some v))
 n := s.n
 lt := fun x y => decide (bcmp x.2.hi y.2.hi < 0)
 St := fun d => [spRows D a s.n d, Arr v [cmpV, .slice s.a s.n s.c], Own D]
 small := hn
 less := fun d i j R w K hs hi hi' hj hj' k => by
  refine CallI_run m328Less (call301 ?_)
  unfold F301
  have hs' : Sat w (spRows D a s.n d :: Arr v [cmpV, .slice s.a s.n s.c] :: Own D :: R) := hs
  obtain ⟨hb, h⟩ := spOpen hs'
  have r1 := rowCell (h.near (w' := w.drew)) (j := i.toNat) (i := 1) om rfl
  have r2 := rowCell (h.near (w' := w.drew)) (j := j.toNat) (i := 1) om rfl
  have ea : s.a = some a := ha om
  refine ⟨_, rfl, Ld1 h ⟨_, rfl, Ld1 h ⟨⟨hi, hi'⟩, _, ea, LdC r1 ⟨_, rfl, Ld1 h ⟨⟨hj, hj'⟩, _, ea, LdC r2 ?_⟩⟩⟩⟩⟩
  refine callCmp (a := (d i.toNat).1.hi) (b := (d j.toNat).1.hi) (h.near.rdB .k2 (hb i.toNat om).2.1.1) (h.near.rdB .k2 (hb j.toNat om).2.1.1) ?_
  exact k _ hs.near
 swap := fun d i j R w K hs hi hi' hj hj' k => by
  refine CallI_run m328Swap (call302 ?_)
  unfold F302
  have hs' : Sat w (spRows D a s.n d :: Arr v [cmpV, .slice s.a s.n s.c] :: Own D :: R) := hs
  obtain ⟨hb, h⟩ := spOpen hs'
  have r1 : RdL w.drew (a.add (i.toNat * 4)) (spc (d i.toNat).1) := rowRd (f := fun j => spc (d j).1) h.near om
  have r2 : RdL w.drew (a.add (j.toNat * 4)) (spc (d j.toNat).1) := rowRd (f := fun j => spc (d j).1) h.near om
  unfold spc at r1 r2
  have ea : s.a = some a := ha om
  refine ⟨_, rfl, Ld1 h ⟨_, rfl, Ld1 h ⟨_, rfl, Ld1 h ⟨⟨hj, hj'⟩, _, ea, LdR r2 ⟨_, rfl, Ld1 h ⟨⟨hi, hi'⟩, _, ea, LdR r1 ⟨⟨hi, hi'⟩, _, ea, ?_⟩⟩⟩⟩⟩⟩⟩
  refine rowSet (k := 4) (j := i.toNat) (h.near (w' := w.drew)) om rfl rfl (spc_one (d j.toNat).1) fun w h => ⟨⟨hj, hj'⟩, _, ea, ?_⟩
  refine rowSet (k := 4) (j := j.toNat) h om ?_ rfl (spc_one (d i.toNat).1) fun w h => k w ?_
  ·unfold upd; split <;> rfl
  ·rw [Rws.congr (g := fun x => spc (swp d i.toNat j.toNat x).1)] at h
   ·refine spShut (fun q hq => ?_) h
    unfold swp upd
    by_cases e1 : q = j.toNat
    ·rw [if_pos e1]; exact hb _ om
    ·rw [if_neg e1]
     by_cases e2 : q = i.toNat
     ·rw [if_pos e2]; exact hb _ om
     ·rw [if_neg e2]; exact hb _ hq
   ·intro x _
    unfold swp upd
    by_cases e1 : x = j.toNat
    ·rw [if_pos e1, if_pos e1]; rfl
    ·rw [if_neg e1, if_neg e1]
     by_cases e2 : x = i.toNat
     ·rw [if_pos e2, if_pos e2]; rfl
     ·rw [if_neg e2, if_neg e2]
theorem end_len {D} {v a : Addr} {s : Sl} {ha : 0 < s.n -> s.a = some a} {hn : s.n < 2^60} {d : Nat -> SpC × SpanM} {R} (w : World) (K : Int -> WP) (hs : Sat w ((endI D v a s ha hn).St d ++ R)) (k : ∀ w', Sat w' ((endI D v a s ha hn).St d ++ R) -> K s.n w') :
  CallI Tryz.prog (endI D v a s ha hn).v.enc "Len" [] [.one (.int .i64)] K w := by
 refine CallI_run m328Len (call300 ?_)
 unfold F300
 have h : Sat w (spRows D a s.n d :: Arr v [cmpV, .slice s.a s.n s.c] :: Own D :: R) := hs
 exact ⟨_, rfl, Ld1 h (k _ hs)⟩
theorem endSWO {D} {v a : Addr} {s : Sl} {ha : 0 < s.n -> s.a = some a} {hn : s.n < 2^60} : SWO (endI D v a s ha hn).lt := by
 refine ⟨fun x y h => ?_, fun x y z h k => ?_⟩
 ·simp only [endI, decide_eq_true_eq, decide_eq_false_iff_not] at *
  have := bcmp_anti x.2.hi y.2.hi; omega
 ·simp only [endI, decide_eq_false_iff_not] at *
  exact not_lt_b.2 (bcmp_trans (not_lt_b.1 k) (not_lt_b.1 h))
structure EmitI where
 em : FV
 C : Hp -> List SpanM -> Chunk
 mono : ∀ {D D' : Hp} {l : List SpanM} {g : Hp}, D.le D' -> C D l g -> C D' l g
 run : ∀ {D : Hp} {l : List SpanM} {x : SpC} {s : SpanM} {R : List Chunk} {w : World} {K : Unit -> WP}, SpRel D x s -> s.keys.length < 2^32 -> l.length < 2^32 -> Sat w (Own D :: C D l :: R) ->
  (∀ w', Sat w' (Own D :: C D (l ++ [s]) :: R) -> K () w') -> CallV Tryz.prog em.enc [.agg #[.slice x.lo.a x.lo.n x.lo.c, .slice x.hi.a x.hi.n x.hi.c, .slice x.ks.a x.ks.n x.ks.c, .int .i8 (0 : Int)]] [] K w
noncomputable def kmD (D : Hp) (k : KC) : KeyM := ⟨k.1, sbD D k, vbD D k⟩
theorem KRel.kmD {D} : ∀ {a : List KC} {b : List KeyM}, KRel D a b -> b = a.map (kmD D)
 | [], [], _ => rfl
 | [], _ :: _, h => h.elim
 | _ :: _, [], h => h.elim
 | x :: a, m :: b, ⟨h1, h2⟩ => by
  rw [List.map_cons, <- KRel.kmD h2]
  congr 1
  unfold Go.Proofs.YtpkoddfamelnhaaGreatDoor.kmD
  rw [sbD_eq h1.2.1, vbD_eq h1.2.2, h1.1]
theorem KRel.of_kmD {D} : ∀ {a : List KC}, (∀ k ∈ a, ∃ s v, BytesAt D k.2.1 s /\ BytesAt D k.2.2 v) -> KRel D a (a.map (Go.Proofs.YtpkoddfamelnhaaGreatDoor.kmD D))
 | [], _ => trivial
 | k :: a, h => by
  obtain ⟨s, v, h1, h2⟩ := h k (by simp)
  refine ⟨⟨rfl, ?_, ?_⟩, KRel.of_kmD fun x hx => h x (List.mem_cons_of_mem _ hx)⟩
  ·show BytesAt D k.2.1 (sbD D k); rw [sbD_eq h1]; exact h1
  ·show BytesAt D k.2.2 (vbD D k); rw [vbD_eq h2]; exact h2
theorem TrSorted.perm {acc out : List KC} (h : TrSorted acc out) : out.Perm acc := by
 obtain ⟨d', h1, h2, rfl⟩ := h
 have := h1.perm
 rwa [range_getD kd acc] at this
theorem take_len {α β : Type} (f : α -> List β) (l : List α) (i : Nat) : ((l.take i).flatMap f).length <= (l.flatMap f).length := by
 have : l.flatMap f = (l.take i).flatMap f ++ (l.drop i).flatMap f := by rw [<- List.flatMap_append, List.take_append_drop]
 rw [this, List.length_append]; omega
theorem drop_len {α β : Type} (f : α -> List β) (l : List α) (i : Nat) : ((l.drop i).flatMap f).length <= (l.flatMap f).length := by
 have : l.flatMap f = (l.take i).flatMap f ++ (l.drop i).flatMap f := by rw [<- List.flatMap_append, List.take_append_drop]
 rw [this, List.length_append]; omega
theorem sortFlush {v : Addr} {fb : Sl} {acc : List KC} {R w} {K : Unit -> WP} (hn : fb.n = acc.length) (hlen : acc.length < 2^40) (h : Sat w (Buf 3 fb (acc.flatMap kcells) :: Arr v [.slice fb.a fb.n fb.c] :: R))
  (k : ∀ out w', TrSorted acc out -> Sat w' (Buf 3 fb (out.flatMap kcells) :: Arr v [.slice fb.a fb.n fb.c] :: R) -> K () w') : CallF Tryz.prog 88 [(.iface 329 (.pointer (some v)))] [] K w := by
 have h1 := h
 rw [<- flat_all kcells kd acc, <- hn] at h1
 have hnone : fb.a = none -> fb.n = 0 /\ fb.c = 0 := fun hh => by
  obtain ⟨g, hg, _⟩ := h1
  unfold Buf at hg
  rw [hh] at hg
  exact ⟨hg.1, hg.2.1⟩
 obtain ⟨hnc, hka, h2⟩ := bufOpen (k := 3) (p := v) (fun j _ => rfl) (Nat.succ_pos _) h1
 have hn60 : fb.n < 2^60 := by omega
 have h4 : Sat w ((keysI v (fb.a.getD v) fb hka hn60).St (fun j => acc.getD j kd) ++ (spareO 3 fb :: R)) := h2.t2.t1
 refine call88 (data1 := .mk 329 (.pointer (some v))) (spec88 (I := keysI v (fb.a.getD v) fb hka hn60) keysSWO (fun w K hs k => keys_len w K hs k) h4 fun d' w hsm hso h => ?_)
 have h5 : Sat w (Rws (fb.a.getD v) 3 fb.n (fun j => kcells (d' j)) :: Arr v [.slice fb.a fb.n fb.c] :: spareO 3 fb :: R) := h
 have h6 := bufShut (k := 3) (f := fun j => kcells (d' j)) (m := fb.n) (p := v) (fun j hj => rfl) (Nat.le_refl _) hnone (h5.t2.t1)
 have e : flat (fun j => kcells (d' j)) fb.n = ((List.range acc.length).map d').flatMap kcells := by
  rw [hn]
  have : ∀ n, flat (fun j => kcells (d' j)) n = ((List.range n).map d').flatMap kcells := by
   intro n
   induction n with
   | zero => rfl
   | succ n ih => rw [flat, ih, List.range_succ, List.map_append, List.flatMap_append]; simp
  exact this _
 rw [e] at h6
 refine k _ w ⟨d', by rw [<- hn]; exact hsm, fun i j hij hj => ?_, rfl⟩ h6
 have := hso i j (Nat.zero_le _) hij (by show j < fb.n; omega)
 simp only [keysI, decide_eq_false_iff_not] at this
 omega
structure FrS where
 fmt : FV
 pend : Sl
 done : Sl
 sbc : FV
 sbuf : Sl
 fb : Sl
 fbc : List Value
 fk : Sl
 fin : Bool
def FL (f : Addr) (E : EmitI) (s : FrS) (D : Hp) (l : List SpanM) (R : List Chunk) : List Chunk :=
 Arr f [cmpV, s.fmt.enc, E.em.enc, .slice s.pend.a s.pend.n s.pend.c, .slice s.done.a s.done.n s.done.c] :: Arr (f.add 5) [s.sbc.enc, .slice s.sbuf.a s.sbuf.n s.sbuf.c] :: Arr (f.add 7) [.slice s.fb.a s.fb.n s.fb.c] :: Arr (f.add 8) [.slice s.fk.a s.fk.n s.fk.c] :: Arr (f.add 9) [.bool s.fin] :: Buf 3 s.fb s.fbc :: Own D :: E.C D l :: R
def spd : SpanM := ⟨.empty, .empty, []⟩
def xpd : SpC := ⟨⟨none, 0, 0⟩, ⟨none, 0, 0⟩, ⟨none, 0, 0⟩⟩
structure FlIn (x0 t : ByteArray) (ps : List SpanM) : Prop where
 lo : ∀ p ∈ ps, p.lo = x0 /\ bcmp x0 p.hi < 0
 hi : ∀ p ∈ ps, bcmp p.hi t <= 0
 sz : ∀ p ∈ ps, p.lo.size < 2^40 /\ p.hi.size < 2^40
 nd : ((ps.flatMap (·.keys)).map (·.tr)).Nodup
 kn : (ps.flatMap (·.keys)).length < 2^30
 n : ps.length < 2^30
structure FlMid (x0 t : ByteArray) (qs : List SpanM) (r : Nat) (t0 : ByteArray) (fl : List SpanM) : Prop where
 ge : ∀ (j : Nat) (q : SpanM), r <= j -> qs[j]? = some q -> bcmp t0 q.hi < 0
 lt : ∀ (j : Nat) (q : SpanM), j < r -> qs[j]? = some q -> bcmp q.hi t0 <= 0
 xt : bcmp x0 t0 <= 0
 sz : t0.size < 2^40
 ok : SpansOK fl
 lo : ∀ f ∈ fl, bcmp x0 f.lo <= 0
 hi : ∀ f ∈ fl, bcmp f.hi t0 <= 0 /\ bcmp f.hi t <= 0
 ks : ∀ y, bcmp x0 y <= 0 -> bcmp y t0 < 0 -> (keysOf fl y).Perm ((qs.filter fun p => decide (bcmp y p.hi < 0)).flatMap (·.keys))
 n : fl.length <= r
theorem filter_lt {qs : List SpanM} {y : ByteArray} (h : ∀ (j : Nat) (q : SpanM), qs[j]? = some q -> bcmp q.hi y <= 0) : (qs.filter fun p => decide (bcmp y p.hi < 0)) = [] := by
 rw [List.filter_eq_nil_iff]
 intro q hq
 obtain ⟨j, hj⟩ := List.getElem?_of_mem hq
 have := not_lt_b.2 (h j q hj)
 simpa using this
theorem filter_mid {qs : List SpanM} {y : ByteArray} {r : Nat} (h1 : ∀ (j : Nat) (q : SpanM), j < r -> qs[j]? = some q -> bcmp q.hi y <= 0) (h2 : ∀ (j : Nat) (q : SpanM), r <= j -> qs[j]? = some q -> bcmp y q.hi < 0) : (qs.filter fun p => decide (bcmp y p.hi < 0)) = qs.drop r := by
 have e : qs.filter (fun p => decide (bcmp y p.hi < 0)) = (qs.take r).filter (fun p => decide (bcmp y p.hi < 0)) ++ (qs.drop r).filter (fun p => decide (bcmp y p.hi < 0)) := by rw [<- List.filter_append, List.take_append_drop]
 rw [e, filter_lt, List.nil_append, List.filter_eq_self.2]
 ·intro q hq
  obtain ⟨j, hj⟩ := List.getElem?_of_mem hq
  rw [List.getElem?_drop] at hj
  simpa using h2 (r + j) q om hj
 ·intro j q hq
  rw [List.getElem?_take] at hq
  split at hq
  ·exact h1 j q om hq
  ·cases hq
theorem FlMid.next {x0 t t0 : ByteArray} {qs fl : List SpanM} {r rem : Nat} {e : ByteArray} {q : SpanM} {ks : List KeyM} (h : FlMid x0 t qs r t0 fl) (hso : ∀ (i j : Nat) (x y : SpanM), i < j -> qs[i]? = some x -> qs[j]? = some y -> bcmp x.hi y.hi <= 0)
  (hq : qs[r]? = some q) (he : q.hi = e) (het : bcmp e t <= 0) (hez : e.size < 2^40) (hrem0 : 1 <= rem) (hrem : ∀ (i : Nat) (x : SpanM), qs[r + i]? = some x -> (x.hi = e ↔ i < rem)) (hks : ks.Perm ((qs.drop r).flatMap (·.keys))) : FlMid x0 t qs (r + rem) e (fl ++ [⟨t0, e, ks⟩]) := by
 subst he
 have hlt := h.ge r q (Nat.le_refl _) hq
 refine ⟨fun j x hj hx => ?_, fun j x hj hx => ?_, bcmp_trans h.xt (lt_le_b hlt), hez, ?_, fun f hf => ?_, fun f hf => ?_, fun y hy1 hy2 => ?_, ?_⟩
 ·have h1 := hrem (j - r) x (by rw [show r + (j - r) = j by omega]; exact hx)
  have h2 := hso r j q x om hq hx
  refine Int.not_le.1 fun hge => ?_
  have := bcmp_anti q.hi x.hi
  exact absurd (h1.1 (bcmp_zero om).symm) om
 ·by_cases hjr : j < r
  ·exact bcmp_trans (h.lt j x hjr hx) (lt_le_b hlt)
  ·have h1 := hrem (j - r) x (by rw [show r + (j - r) = j by omega]; exact hx)
   rw [h1.2 om]; exact le_refl_b _
 ·exact h.ok.app (t := t0) (SpansOK.one hlt ⟨h.sz, hez⟩) (fun f hf => (h.hi f hf).1) (fun f hf => by simp only [List.mem_singleton] at hf; rw [hf]; exact le_refl_b _)
 ·rcases List.mem_append.1 hf with hf | hf
  ·exact h.lo f hf
  ·simp only [List.mem_singleton] at hf; rw [hf]; exact h.xt
 ·rcases List.mem_append.1 hf with hf | hf
  ·exact ⟨bcmp_trans (h.hi f hf).1 (lt_le_b hlt), (h.hi f hf).2⟩
  ·simp only [List.mem_singleton] at hf; rw [hf]; exact ⟨le_refl_b _, het⟩
 ·by_cases hy : bcmp y t0 < 0
  ·rw [keysOf_lt (t := t0) (fun f hf => by simp only [List.mem_singleton] at hf; rw [hf]; exact le_refl_b _) hy]
   exact h.ks y hy1 hy
  ·have hy' := not_lt_b.1 hy
   have e1 : keysOf (fl ++ [⟨t0, q.hi, ks⟩]) y = ks := (keysOf_ge (t := t0) (fun f hf => (h.hi f hf).1) hy').trans (keysOf_one hy' hy2)
   have e2 : (qs.filter fun p => decide (bcmp y p.hi < 0)) = qs.drop r := by
    refine filter_mid (r := r) ?_ ?_
    ·intro j x hj hx; exact bcmp_trans (h.lt j x hj hx) hy'
    ·intro j x hj hx
     by_cases e : j = r
     ·subst e; rw [hq] at hx; injection hx with hx; rw [<- hx]; exact hy2
     ·exact bcmp_lt_le hy2 (hso r j q x om hq hx)
   rw [e1, e2]
   exact hks
 ·rw [List.length_append]; have := h.n; simp only [List.length_singleton]; omega
theorem FlMid.done {x0 t t0 : ByteArray} {ps qs fl : List SpanM} {r : Nat} (h : FlMid x0 t qs r t0 fl) (hr : qs.length <= r) (hp : qs.Perm ps) : Flushed x0 ps fl t := by
 refine ⟨h.ok, h.lo, fun f hf => (h.hi f hf).2, fun y hy => ?_⟩
 have hpp : ((qs.filter fun p => decide (bcmp y p.hi < 0)).flatMap (·.keys)).Perm ((ps.filter fun p => decide (bcmp y p.hi < 0)).flatMap (·.keys)) := (hp.filter _).flatMap_right _
 refine List.Perm.trans ?_ hpp
 by_cases hy2 : bcmp y t0 < 0
 ·exact h.ks y hy hy2
 ·have hy' := not_lt_b.1 hy2
  rw [filter_lt fun j q hq => bcmp_trans (h.lt j q (by have := (List.getElem?_eq_some_iff.1 hq).1; omega) hq) hy']
  unfold keysOf
  rw [covs_above fun f hf => bcmp_trans (h.hi f hf).1 hy']
  exact List.Perm.refl _
theorem addm (a : Addr) (r i : Nat) : (a.add (r * 4)).add (i * 4) = a.add ((r + i) * 4) := by rw [Addr.add_add, <- Nat.add_mul]
def RowsOK (D : Hp) (qs : List SpanM) (r : Nat) (t0 : ByteArray) (X : Nat -> SpC) : Prop := ∀ (j : Nat) (q : SpanM), r <= j -> qs[j]? = some q -> SpRel D (X j) ⟨t0, q.hi, q.keys⟩
theorem flushKeys {E : EmitI} {f a : Addr} {s : FrS} {D} {l : List SpanM} {qs : List SpanM} {X : Nat -> SpC} {r n : Nat} {q : SpanM} {t0 : ByteArray} {R} {w : World} {Z : Int × Int -> WP} (hn : qs.length = n) (hn30 : n < 2^30) (hrn : r < n) (hX : RowsOK D qs r t0 X) (hq : qs[r]? = some q)
  (hso : ∀ (i j : Nat) (x y : SpanM), i < j -> qs[i]? = some x -> qs[j]? = some y -> bcmp x.hi y.hi <= 0) (hkn : (qs.flatMap (·.keys)).length < 2^30) (h : Sat w (Rws a 4 n (fun j => spc (X j)) :: FL f E s D l R))
  (k : ∀ (rem : Nat) (acc : List KC) (fb : Sl) w', 1 <= rem -> rem <= n - r -> (∀ (i : Nat) (x : SpanM), qs[r + i]? = some x -> (x.hi = q.hi ↔ i < rem)) -> KRel D acc ((qs.drop r).flatMap (·.keys)) -> fb.n = acc.length -> acc.length < 2^30 -> Sat w' (Rws a 4 n (fun j => spc (X j)) :: FL f E { s with fb := fb, fbc := acc.flatMap kcells } D l R) -> Z ((rem : Int), ((n - r : Nat) : Int)) w') :
  (0 <= (0 : Int) /\ (0 : Int) < ((n - r : Nat) : Int)) /\ (∃ e18, some (a.add (r * 4)) = some e18 /\ Ld (.one .sl) ((e18.add (0 * 4)).add 2) (fun (Keys19 : Sl) w => AppP si152 ⟨s.fb.a, 0, s.fb.c⟩ Keys19 (fun (a20 : Sl) w => ∃ p21, some f = some p21 /\ St (p21.add 7) (.slice a20.a a20.n a20.c) (fun w => Tr.Loop (fun (next23 : (Int × Int) -> WP) (s22 : Int × Int) w => (if (decide (s22.2 < ((n - r : Nat) : Int))) = true then Tr.Join (fun (s24 : Int) w => ∃ p26, some f = some p26 /\ Ld (.one .sl) (p26.add 7) (fun (flushBuf27 : Sl) w => (0 <= s22.2 /\ s22.2 < ((n - r : Nat) : Int)) /\ (∃ e28, some (a.add (r * 4)) = some e28 /\ Ld (.one .sl) ((e28.add (s22.2.toNat * 4)).add 2) (fun (Keys29 : Sl) w => AppP si152 flushBuf27 Keys29 (fun (a30 : Sl) w => ∃ p31, some f = some p31 /\ St (p31.add 7) (.slice a30.a a30.n a30.c) (fun w => next23 (s24, (IntKind.i64.wrap (s22.2 + (1 : Int)))) w) w) w) w)) w.drew) (fun J_25 => ∃ p32, some f = some p32 /\ Ld (.one .fn) (p32.add 0) (fun (Cmp33 : FV) w => (0 <= s22.2 /\ s22.2 < ((n - r : Nat) : Int)) /\ (∃ e34, some (a.add (r * 4)) = some e34 /\ Ld (.one .sl) ((e34.add (s22.2.toNat * 4)).add 1) (fun (End35 : Sl) w => CallV Tryz.prog (FV.enc Cmp33) [.slice (X r).hi.a (X r).hi.n (X r).hi.c, .slice End35.a End35.n End35.c] [(.one (.int .i64))] (fun (r36 : Int) w => (if (r36 == (0 : Int)) = true then J_25 (IntKind.i64.wrap (s22.1 + (1 : Int))) w else J_25 s22.1 w)) w) w)) w.drew) else Z s22 w)) ((1 : Int), (1 : Int)) w) w) w) w) := by
 have hqr : q.keys.length <= (qs.flatMap (·.keys)).length := by
  have h1 := drop_len (·.keys) qs r
  have h2 := take_len (·.keys) (qs.drop r) 1
  have e : (qs.drop r).take 1 = [q] := by rw [List.take_one, List.head?_drop, hq]; rfl
  rw [e] at h2
  simp only [List.flatMap_cons, List.flatMap_nil, List.append_nil] at h2
  omega
 have h' := h
 have hrow : ∀ {w s}, Sat w (Rws a 4 n (fun j => spc (X j)) :: FL f E s D l R) -> ∀ (i m : Nat) (v : Value), r + i < n -> (spc (X (r + i)))[m]? = some v -> w.cell? (((a.add (r * 4)).add (i * 4)).add m) = some v := fun h i m v hi e => by
  rw [addm]; exact rowCell (f := fun j => spc (X j)) h hi e
 unfold FL at h
 refine ⟨⟨by omega, by omega⟩, _, rfl, LdC (hrow h' 0 2 _ om rfl) ?_⟩
 obtain ⟨-, -, kc, hk1, hk2⟩ := hX r q (Nat.le_refl _) hq
 have hkl : kc.length = q.keys.length := hk2.len
 have hkn' := hk1.1
 have hrd : RdS w (X r).ks.a ((X r).ks.n * 3) (kc.flatMap kcells) := rdKC h .k7 hk1
 rw [Nat.add_zero]
 refine AppP_run (s := si152) (w := w) (d := ⟨s.fb.a, 0, s.fb.c⟩) (x := (X r).ks) (old := []) (new := kc.flatMap kcells) (bufTrunc (h.mv 6)) hrd (by show _ = (X r).ks.n * 3; rw [kcells_flat_len, hkn']) (fun v hv => ?_) (by show (2 * (0 + (X r).ks.n) + 1024) * 56 <= _; omega) (by dsimp only; omega) fun fb1 w er ea h => ?_
 ·simp only [List.mem_flatMap] at hv
  obtain ⟨y, _, hy⟩ := hv
  exact kcells_one y v hy
 dsimp only at er
 refine ⟨_, rfl, St1 h rfl fun w h => ?_⟩
 have h2 : Sat w (Rws a 4 n (fun j => spc (X j)) :: FL f E { s with fb := fb1, fbc := kc.flatMap kcells } D l R) := h.pt 6
 clear h h' hrd
 have hd1 : (qs.drop r).take 1 = [q] := by rw [List.take_one, List.head?_drop, hq]; rfl
 refine ⟨fun m (z : Int × Int) w => ∃ (i rem : Nat) (fb : Sl) (acc : List KC), z = ((rem : Int), (i : Int)) /\ 1 <= i /\ i <= n - r /\ m = n - r - i /\ 1 <= rem /\ rem <= i /\ (∀ (i' : Nat) (x : SpanM), i' < i -> qs[r + i']? = some x -> (x.hi = q.hi ↔ i' < rem)) /\ KRel D acc (((qs.drop r).take i).flatMap (·.keys)) /\ fb.n = acc.length /\
   Sat w (Rws a 4 n (fun j => spc (X j)) :: FL f E { s with fb := fb, fbc := acc.flatMap kcells } D l R), ⟨_, 1, 1, fb1, kc, rfl, Nat.le_refl _, by omega, rfl, Nat.le_refl _, Nat.le_refl _, fun i' x hi hx => ?_, ?_, by omega, h2⟩, ?_⟩
 ·have : i' = 0 := by omega
  subst this
  rw [Nat.add_zero, hq] at hx
  injection hx with hx
  rw [hx]
  simp
 ·rw [hd1]; simpa using hk2
 clear h2
 rintro m z w ⟨i, rem, fb, acc, rfl, hi1, hin, hm, hr1, hri, heq, hrel, hfb, h'⟩
 have hal : acc.length < 2^30 := by
  have h1 := drop_len (·.keys) qs r
  have h2 := take_len (·.keys) (qs.drop r) i
  rw [hrel.len]; omega
 dsimp only
 refine ifd (fun hlt => ?_) (fun hge => ?_)
 ·have hir : r + i < n := by omega
  have hx : qs[r + i]? = some qs[r + i] := List.getElem?_eq_getElem om
  have hxk := hX (r + i) _ om hx
  generalize qs[r + i] = x at hx hxk
  have ew : IntKind.i64.wrap ((i : Int) + 1) = ((i + 1 : Nat) : Int) := w1 om
  have ew2 : IntKind.i64.wrap ((rem : Int) + 1) = ((rem + 1 : Nat) : Int) := w1 om
  rw [ew, ew2, Int.toNat_natCast]
  refine ⟨fun (z : Int) w => ∃ rem' : Nat, z = rem' /\ 1 <= rem' /\ rem' <= i + 1 /\ (∀ (i' : Nat) (x : SpanM), i' < i + 1 -> qs[r + i']? = some x -> (x.hi = q.hi ↔ i' < rem')) /\ Sat w (Rws a 4 n (fun j => spc (X j)) :: FL f E { s with fb := fb, fbc := acc.flatMap kcells } D l R), ?_, ?_⟩
  ·clear h'
   rintro _ w ⟨rem', rfl, h1, h2, h3, h'⟩
   have h := h'
   unfold FL at h
   obtain ⟨-, -, kc2, hk1, hk2⟩ := hxk
   have hkl2 : kc2.length = x.keys.length := hk2.len
   have hkn2 := hk1.1
   have e1 : (qs.drop r).take (i + 1) = (qs.drop r).take i ++ [x] := by rw [List.take_add_one, List.getElem?_drop, hx]; rfl
   have hxl : (acc ++ kc2).length < 2^30 := by
    have h1 := drop_len (·.keys) qs r
    have h2 := take_len (·.keys) (qs.drop r) (i + 1)
    rw [e1, List.flatMap_append, List.length_append] at h2
    simp only [List.flatMap_cons, List.flatMap_nil, List.append_nil] at h2
    rw [List.length_append, hrel.len, hkl2]; omega
   rw [List.length_append] at hxl
   refine ⟨_, rfl, Ld1 h ⟨⟨by omega, hlt⟩, _, rfl, LdC (hrow (h'.near (w' := w.drew)) i 2 _ hir rfl) ?_⟩⟩
   have hrd : RdS w.drew (X (r + i)).ks.a ((X (r + i)).ks.n * 3) (kc2.flatMap kcells) := rdKC h.near .k7 hk1
   refine AppP_run (s := si152) (w := w) (d := ⟨fb.a, fb.n, fb.c⟩) (x := (X (r + i)).ks) (old := acc.flatMap kcells) (new := kc2.flatMap kcells) (h.mv 6) hrd (by show _ = (X (r + i)).ks.n * 3; rw [kcells_flat_len, hkn2]) (fun v hv => ?_) (by show (2 * (fb.n + (X (r + i)).ks.n) + 1024) * 56 <= _; omega) (by dsimp only; omega) fun fb1 w er ea h => ?_
   ·simp only [List.mem_flatMap] at hv
    obtain ⟨y, _, hy⟩ := hv
    exact kcells_one y v hy
   dsimp only at er
   refine ⟨_, rfl, St1 h rfl fun w h => ?_⟩
   rw [<- List.flatMap_append] at h
   refine ⟨n - r - (i + 1), by omega, i + 1, rem', fb1, acc ++ kc2, rfl, by omega, by omega, rfl, h1, h2, h3, ?_, by rw [List.length_append]; omega, h.pt 6⟩
   rw [e1, List.flatMap_append]
   exact hrel.app (by simpa using hk2)
  ·have h := h'
   unfold FL at h
   have hq' := hX r q (Nat.le_refl _) hq
   refine ⟨_, rfl, Ld1 h ⟨⟨by omega, hlt⟩, _, rfl, LdC (hrow (h'.near (w' := w.drew)) i 1 _ hir rfl) ?_⟩⟩
   refine callCmp (a := (X r).hi) (b := (X (r + i)).hi) (h.near.rdB .k7 hq'.2.1.1) (h.near.rdB .k7 hxk.2.1.1) ?_
   refine ife (fun he => ?_) (fun hne => ?_)
   ·have he' : q.hi = x.hi := bcmp_zero he
    have hre : rem = i := by
     rcases Nat.lt_or_ge rem i with hlt' | hge'
     ·exfalso
      have hy : qs[r + rem]? = some qs[r + rem] := List.getElem?_eq_getElem om
      generalize qs[r + rem] = y at hy
      have h3 := heq rem y hlt' hy
      have h4 := hso (r + rem) (r + i) y x om hy hx
      have h5 := hso r (r + rem) q y om hq hy
      rw [<- he'] at h4
      have := bcmp_anti q.hi y.hi
      exact absurd (h3.1 (bcmp_zero om).symm) (Nat.lt_irrefl _)
     ·omega
    refine ⟨rem + 1, rfl, by omega, by omega, fun i' x' hi' hx' => ?_, h'.near⟩
    by_cases e : i' = i
    ·subst e; rw [hx] at hx'; injection hx' with hx'; rw [<- hx', he']; simp; omega
    ·rw [heq i' x' om hx']; omega
   ·refine ⟨rem, rfl, hr1, by omega, fun i' x' hi' hx' => ?_, h'.near⟩
    by_cases e : i' = i
    ·subst e
     rw [hx] at hx'; injection hx' with hx'
     rw [<- hx']
     constructor
     ·intro h0; rw [h0, bcmp_refl] at hne; exact (hne rfl).elim
     ·intro h0; omega
    ·exact heq i' x' om hx'
 ·have : i = n - r := by omega
  subst this
  have e1 : (qs.drop r).take (n - r) = qs.drop r := List.take_of_length_le (by rw [List.length_drop]; omega)
  rw [e1] at hrel
  refine k rem acc fb w hr1 hri (fun i' x hx => ?_) hrel hfb hal h'
  have := (List.getElem?_eq_some_iff.1 hx).1
  exact heq i' x om hx
end Go.Proofs.YtpkoddfamelnhaaGreatDoor
