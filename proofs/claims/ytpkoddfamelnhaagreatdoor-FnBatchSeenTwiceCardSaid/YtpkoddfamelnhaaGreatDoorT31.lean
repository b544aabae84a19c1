/- Part 31 of the proof of fnBatchSeenTwice_card. Conditions: none. -/
import Derived.Test.YtpkoddfamelnhaaGreatDoorT30
set_option linter.unusedVariables false
set_option linter.unusedSimpArgs false
namespace Go.Proofs.YtpkoddfamelnhaaGreatDoor
open Go Go.Tr
set_option maxRecDepth 100000
structure RngOK (l : List OpM) (ss : List SpanM) : Prop where
 ok : SpansOK ss
 n : ss.length < 2^32
 ks : ∀ y, (keysOf ss y).Perm (covK (((entL l).filter isRK).map spanOf) y)
theorem isPt_kind {e : EntM} (h : isPt e = true) (ho : OpOK e.op) : e.op.kind = 0 \/ e.op.kind = 1 \/ e.op.kind = 2 \/ e.op.kind = 7 \/ e.op.kind = 23 := by
 have hk := ho.kind
 unfold OpKind at hk
 simp only [isPt, isDel, isRK, Bool.and_eq_true, Bool.not_eq_true', decide_eq_false_iff_not] at h
 omega
theorem m258Error : MethAt Tryz.prog 258 "Error" 279 := by intro v w; kernel_rfl
set_option maxHeartbeats 4000000 in
theorem spec9 {ops : Sl} {l : List OpM} {R w} {K : Sl × Sl × Sl × Bool -> WP} (hl : ∀ o ∈ l, OpOK o) (hn : l.length <= 512) (hne : l ≠ []) (hops : OpsIn R ops l) (h : Sat w R)
  (k : ∀ pts dl rg ps w', pts.n = ((entL l).filter isPt).length -> RngOK l (ps.map PlM.sp) -> Sat w' (PSp rg ps :: R) -> K (pts, dl, rg, true) w') : F9 ops K w := by
 unfold F9
 refine call22 (spec22 hl hn hops h fun b w h => ?_)
 refine ifn (fun hh => nomatch hh) fun _ => ?_
 have h1 : BtSat b (encL l) l.length (Own (fun _ => none) :: R) w := by
  obtain ⟨s, a1, a2, h⟩ := h
  have h2 : Sat w (Own (fun _ => none) :: Arr b (btc s) :: Buf 1 s.data (nb (encL l)) :: R) := SatU.nil rfl h
  exact ⟨s, a1, a2, (((h2.mv 0).mv 2).mv 2)⟩
 clear h
 have hen : encL l ≠ [] := fun e => by
  have e1 : encL l = z12 ++ l.flatMap recOp := if_neg hne
  rw [e1] at e
  have := congrArg List.length e
  rw [List.length_append, List.length_nil] at this
  have h12 : z12.length = 12 := rfl
  omega
 obtain ⟨D, s, _, hc, hcnt, h⟩ := h1.abs hen
 refine call24 (spec24 h fun cq w h => ?_)
 refine call23 (spec23 hl hn hne hc hcnt (h.mv 2) fun D q offs tombs rks P xs ys dels rngs w hD hf h => ?_)
 refine ⟨IsI_enc .nil, iff' rfl ?_⟩
 refine call25 (spec25 h fun p w h => ?_)
 have hok := entL_ok hl om hne
 have hmem : ∀ e ∈ P, e ∈ entL l /\ isPt e = true := fun e he => List.mem_filter.1 (hf.hP.perm.mem_iff.1 he)
 have hPok : ∀ e ∈ P, EntOK (encL l) e := fun e he => hok e (hmem e he).1
 have hbs : (encL l).length < 2^32 := by
  have := encL_len hl
  omega
 have hPl : P.length <= 512 := by
  rw [hf.hP.perm.length_eq]
  exact Nat.le_trans (List.length_filter_le _ _) (by rw [entL_len]; omega)
 have h2 : Sat w (Arr p (itcs q s.data offs (-1) ⟨none, 0, 0⟩ 0) :: Arr q (fbc .nil s.data offs tombs rks) :: Own D :: Buf 4 rks (ys.flatMap spc) :: Buf 4 tombs (xs.flatMap spc) :: Arr b (btc s) :: Arr cq cmpCs :: R) := (((((((h.mv 6).mv 6).mv 6).mv 5).mv 6).mv 6).mv 6)
 clear h
 have fin : ∀ (m : Nat) (z : Sl × Option Addr × Addr) (w : World), (∃ (j : Nat) (idx : Int) (uk : Sl) (tr : Int) (val : Sl) (acc : List Value), (j < P.length -> idx = j) /\ j <= P.length /\ m = P.length - j /\ z.1.n = j /\ z.2.1 = (if j < P.length then some (p.add 5) else none) /\ (∀ e, P[j]? = some e -> uk = e.key s.data /\ tr = (e.tr : Int) /\ ValAt D val e.op) /\
   Sat w (Buf 3 z.1 acc :: Arr z.2.2 [.slice val.a val.n val.c, .pointer none] :: Arr p (itcs q s.data offs idx uk tr) :: Arr q (fbc .nil s.data offs tombs rks) :: Own D :: Buf 4 rks (ys.flatMap spc) :: Buf 4 tombs (xs.flatMap spc) :: Arr b (btc s) :: Arr cq cmpCs :: R)) ->
   Tr.Loop (fun (next9 : (Sl × Option Addr × Addr) -> WP) (s8 : Sl × Option Addr × Addr) w => (if (!(s8.2.1).isNone) = true then ∃ p10, s8.2.1 = some p10 /\ Ld (.agg [.sl, .int .u64]) p10 (fun (x11 : Sl × Int) w => CallF Tryz.prog 26 [.agg #[.slice x11.1.a x11.1.n x11.1.c, .int .u64 x11.2]] [(.agg [.str, .int .u64, .str])] (fun (r12 : ByteArray × Int × ByteArray) w => NewP [.string ByteArray.empty, .int .u64 (0 : Int), .string ByteArray.empty] 94 (fun (n13 : Addr) w => StL n13 [.string r12.1, .int .u64 r12.2.1, .string r12.2.2] (fun w => CallF Tryz.prog 27 [.pointer (some s8.2.2)] [(.one .sl)] (fun (r14 : Sl) w => ∃ s15, RdB w r14.a r14.n s15 /\ St (n13.add 2) (.string s15) (fun w => Ld (.agg [.str, .int .u64, .str]) n13 (fun (x16 : ByteArray × Int × ByteArray) w => NewS [.string x16.1, .int .u64 x16.2.1, .string x16.2.2] 94 1 (fun (l17 : Sl) w => AppP si24 s8.1 l17 (fun (a18 : Sl) w => Ld (.agg [.sl, .ptr]) s8.2.2 (fun (x19 : Sl × Option Addr) w => NewP [.slice none 0 0, .pointer none] 90 (fun (n20 : Addr) w => StL n20 [.slice x19.1.a x19.1.n x19.1.c, .pointer x19.2] (fun w => CallI Tryz.prog (IV.enc (itV p)) "Next" [] [(.one .ptr), (.agg [.sl, .ptr])] (fun (r21 : Option Addr × Sl × Option Addr) w => StL n20 [.slice r21.2.1.a r21.2.1.n r21.2.1.c, .pointer r21.2.2] (fun w => next9 (a18, r21.1, n20) w) w) w) w) w) w) w) w) w) w) w) w) w) w) w else CallF Tryz.prog 29 [.pointer (some q)] [(.one .ifc)] (fun (r22 : IV) w => CallF Tryz.prog 28 [(IV.enc r22)] [(.one .sl)] (fun (r23 : Sl) w => CallF Tryz.prog 30 [.pointer (some q)] [(.one .ifc)] (fun (r24 : IV) w => CallF Tryz.prog 28 [(IV.enc r24)] [(.one .sl)] (fun (r25 : Sl) w => CallI Tryz.prog (IV.enc (itV p)) "Error" [] [(.one .ifc)] (fun (r26 : IV) w => IsI (IV.enc r26) /\ K (s8.1, r23, r25, (isNilI (IV.enc r26))) w) w) w) w) w) w.drew)) z w := by
  intro m z w hI
  refine ⟨fun m z w => ∃ (j : Nat) (idx : Int) (uk : Sl) (tr : Int) (val : Sl) (acc : List Value), (j < P.length -> idx = j) /\ j <= P.length /\ m = P.length - j /\ z.1.n = j /\ z.2.1 = (if j < P.length then some (p.add 5) else none) /\ (∀ e, P[j]? = some e -> uk = e.key s.data /\ tr = (e.tr : Int) /\ ValAt D val e.op) /\
   Sat w (Buf 3 z.1 acc :: Arr z.2.2 [.slice val.a val.n val.c, .pointer none] :: Arr p (itcs q s.data offs idx uk tr) :: Arr q (fbc .nil s.data offs tombs rks) :: Own D :: Buf 4 rks (ys.flatMap spc) :: Buf 4 tombs (xs.flatMap spc) :: Arr b (btc s) :: Arr cq cmpCs :: R), ⟨m, hI⟩, ?_⟩
  clear hI z m w
  rintro m ⟨pts, pp, lz⟩ w ⟨j, idx, uk, tr, val, acc, hidx, hj, hm, hpn, hpp, hcur, h⟩
  dsimp only at hpn hpp h |-
  subst hpp
  by_cases hlt : j < P.length
  ·rw [if_pos hlt]
   have he : P[j]? = some P[j] := List.getElem?_eq_getElem hlt
   generalize P[j] = e at he
   obtain ⟨rfl, rfl, hval⟩ := hcur e he
   obtain rfl := hidx hlt
   have hem := List.mem_of_getElem? he
   obtain ⟨vs, hvs⟩ := hval.rd (isPt_kind (hmem e hem).2 (hPok e hem).op)
   refine ifNSome ⟨_, rfl, ?_⟩
   have hu := h
   unfold itcs at hu
   refine LdN hu ?_
   clear hu
   have hkb := (hf.hc.keyAt (hPok e hem)).bytes
   refine call26 (k1 := (e.key s.data, (e.tr : Int))) (spec26 (s := e.op.key) (fun w h => h.rdB .k4 hkb) h fun w h => ?_)
   refine NewP_run h fun n13 w h => StL_of (St1 h rfl fun w h => St1 h rfl fun w h => St1 h rfl fun w h => ?_)
   refine call27 (spec27 h .k2 fun h => ⟨vs, h.rdB .k5 hvs, St1 h rfl fun w h => LdN h (NewS_run h fun n17 w h => ?_)⟩)
   refine App1 (k := 3) rfl h .k2 .here rfl (ones_of rfl) ?_ om fun r w er ea h => ?_
   ·show (2 * (pts.n + 1) + 1024) * 40 <= _
    omega
   refine LdN h (NewP_run h fun n20 w h => StL_of (St1 h rfl fun w h => St1 h rfl fun w h => ?_))
   have h3 : Sat w (Arr p (itcs q s.data offs (j : Int) (e.key s.data) (e.tr : Int)) :: Arr q (fbc .nil s.data offs tombs rks) :: Own D :: Arr n20 [.slice val.a val.n val.c, .pointer none] :: Buf 3 r (acc ++ [.string e.op.key, .int .u64 (e.tr : Int), .string vs]) :: Buf 4 rks (ys.flatMap spc) :: Buf 4 tombs (xs.flatMap spc) :: Arr b (btc s) :: Arr cq cmpCs :: R) := ((((((((h.mv 2).tail.mv 2).tail.mv 2).tail.mv 1).mv 1).mv 4).mv 4).mv 4)
   clear h
   refine CallI_run m258Next (call282 (spec282 hf.hc hf.hE hPok hbs hlt om h3 (fun uk tr w hjn h => ?_) (fun e' val' w he' hv' h => ?_)))
   ·refine StL_of (St1 h rfl fun w h => St1 h rfl fun w h => ?_)
    refine ⟨P.length - (j + 1), by omega, j + 1, ((j + 1 : Nat) : Int), uk, tr, nl, acc ++ [.string e.op.key, .int .u64 (e.tr : Int), .string vs], fun _ => rfl, by omega, rfl, by omega, ?_, ?_, ?_⟩
    ·rw [if_neg om]
    ·intro e2 he2
     have := (List.getElem?_eq_some_iff.1 he2).1
     omega
    ·exact (((((h.mv 2).mv 2).mv 2).mv 3).mv 4)
   ·have hjn := (List.getElem?_eq_some_iff.1 he').1
    refine StL_of (St1 h rfl fun w h => St1 h rfl fun w h => ?_)
    refine ⟨P.length - (j + 1), by omega, j + 1, ((j + 1 : Nat) : Int), e'.key s.data, (e'.tr : Int), val', acc ++ [.string e.op.key, .int .u64 (e.tr : Int), .string vs], fun _ => rfl, by omega, rfl, by omega, ?_, ?_, ?_⟩
    ·rw [if_pos om]
    ·intro e2 he2
     rw [he'] at he2
     injection he2 with he2
     subst he2
     exact ⟨rfl, rfl, hv'⟩
    ·exact (((((h.mv 2).mv 2).mv 2).mv 3).mv 4)
  ·have hjl : j = P.length := by omega
   rw [if_neg hlt]
   refine ifNNone ?_
   have h3 : Sat w (Own D :: Buf 4 tombs (xs.flatMap spc) :: Arr q (fbc .nil s.data offs tombs rks) :: Buf 4 rks (ys.flatMap spc) :: Buf 3 pts acc :: Arr lz [.slice val.a val.n val.c, .pointer none] :: Arr p (itcs q s.data offs idx uk tr) :: Arr b (btc s) :: Arr cq cmpCs :: R) := (((((((h.mv 2).mv 2).mv 2).mv 5).mv 4).mv 6).mv 6)
   clear h
   have kd1 : ∀ s ∈ dels, s.keys.length < 2^32 := fun s hs => by
    have h9 := keysC_len hf.t3 hf.t4 512 ?_ s hs
    ·omega
    ·have e1 := take_keysT_len (E := (entL l).filter isDel) (j := ((entL l).filter isDel).length)
     rw [List.take_length] at e1
     have e2 := List.length_filter_le isDel (entL l)
     rw [entL_len] at e2
     omega
   have kd2 : ∀ s ∈ rngs, s.keys.length < 2^32 := fun s hs => by
    have h9 := keysC_len hf.r3 hf.r4 512 ?_ s hs
    ·omega
    ·have e1 := take_keys_len (E := (entL l).filter isRK) (j := ((entL l).filter isRK).length)
     rw [List.take_length] at e1
     have e2 := List.length_filter_le isRK (entL l)
     rw [entL_len] at e2
     omega
   refine list29 hf.t1 hf.t2 hf.t5 kd1 h3.near fun D1 dl pd w hD1 hpd h => ?_
   clear h3
   have h4 : Sat w (Own D1 :: Buf 4 rks (ys.flatMap spc) :: Arr q (fbc .nil s.data offs tombs rks) :: PSp dl pd :: Buf 3 pts acc :: Arr lz [.slice val.a val.n val.c, .pointer none] :: Arr p (itcs q s.data offs idx uk tr) :: Arr b (btc s) :: Arr cq cmpCs :: R) := ((((h.mv 0).mv 2).mv 3).mv 3)
   clear h
   refine list30 (hf.r1.mono hD1) hf.r2 hf.r5 kd2 h4 fun D2 rg ps w hD2 hps h => ?_
   have h5 : Sat w (Arr p (itcs q s.data offs idx uk tr) :: PSp rg ps :: Own D2 :: Arr q (fbc .nil s.data offs tombs rks) :: PSp dl pd :: Buf 3 pts acc :: Arr lz [.slice val.a val.n val.c, .pointer none] :: Arr b (btc s) :: Arr cq cmpCs :: R) := (((((((h.mv 5).mv 5).mv 5).mv 5).mv 5).mv 5).mv 6)
   clear h h4
   refine CallI_run m258Error (call279 ?_)
   unfold F279
   unfold itcs at h5
   refine ⟨_, rfl, Ld1 h5 (decI_enc (x := .nil) ⟨IsI_enc .nil, ?_⟩)⟩
   refine k pts dl rg ps w ?_ ⟨by rw [hps]; exact hf.r3, by rw [hps]; exact hf.r5, fun y => by rw [hps]; exact hf.r4 y⟩ ?_
   ·rw [hpn, hjl, hf.hP.perm.length_eq]
   ·exact Sat.drop 7 (h5.tail.pt 7)
 refine CallI_run m258First (call280 (spec280 hf.hc hf.hE hPok hbs h2 (fun w he h => ?_) (fun e val w he hv h => ?_)))
 ·refine NewP_run h fun n7 w h => StL_of (St1 h rfl fun w h => St1 h rfl fun w h => fin 0 _ w ⟨0, -1, nl, 0, nl, [], fun h9 => by rw [he] at h9; exact absurd h9 (Nat.not_lt_zero _), Nat.zero_le _, by rw [he]; rfl, rfl, by rw [he]; rfl, fun e h9 => by rw [he] at h9; simp at h9, ?_⟩)
  exact (h.bufNil 3)
 ·have hjn := (List.getElem?_eq_some_iff.1 he).1
  refine NewP_run h fun n7 w h => StL_of (St1 h rfl fun w h => St1 h rfl fun w h => fin P.length _ w ⟨0, ((0 : Nat) : Int), e.key s.data, (e.tr : Int), val, [], fun _ => rfl, Nat.zero_le _, rfl, rfl, by rw [if_pos hjn], fun e2 h9 => by rw [he] at h9; injection h9 with h9; subst h9; exact ⟨rfl, rfl, hv⟩, ?_⟩)
  exact (h.bufNil 3)
theorem ifnf {b : Bool} {A B : Prop} (x : b = true -> A) (y : b = false -> B) : if (!b) = false then A else B := by
 cases b
 ·exact y rfl
 ·exact x rfl
theorem spec19 {o : OpM} {R w} {K : Bool -> WP} (h : Sat w R) (k : ∀ b w', Sat w' R -> K b w') : F19 ((o.kind : Int), o.key, o.val, o.end_, o.suf, (o.size : Int)) K w := by
 unfold F19
 refine NewP_run h fun n w h => Ld1 h (ifd (fun _ => k _ _ h.tail) fun _ => Ld1 h (ifd (fun _ => k _ _ h.tail) fun _ => Ld1 h (ifd (fun _ => k _ _ h.tail) fun _ => Ld1 h (ifd (fun _ => k _ _ h.tail) fun _ => k _ _ h.tail))))
theorem opAt {R} {ops : Sl} {l : List OpM} (hops : OpsIn R ops l) {j : Nat} (hj : j < l.length) {w} (h : Sat w R) : ∃ e, ops.a = some e /\ RdL w (e.add (j * 6)) [.int .u8 (l[j].kind : Int), .string l[j].key, .string l[j].val, .string l[j].end_, .string l[j].suf, .int .u32 (l[j].size : Int)] :=
 hops.2 w h j l[j] (List.getElem?_eq_getElem hj)
theorem spec6 {ops : Sl} {l : List OpM} {R w} {K : Bool -> WP} (hops : OpsIn R ops l) (h : Sat w R) (k : ∀ b w', (b = true -> l.length <= 2147483647) -> Sat w' R -> K b w') : F6 ops K w := by
 unfold F6
 have hn := hops.1
 refine ifd (fun _ => k _ _ (fun h => nomatch h) h) fun hle => ?_
 refine ⟨fun m (z : Int) w => ∃ j : Nat, z = (j : Int) /\ j <= l.length /\ m = l.length - j /\ Sat w R, ⟨_, 0, rfl, Nat.zero_le _, rfl, h⟩, ?_⟩
 clear h
 rintro m z w ⟨j, rfl, hj, hm, h⟩
 refine ifd (fun hlt => ?_) (fun hge => k _ _ (fun _ => by omega) h)
 have hjl : j < l.length := by omega
 obtain ⟨e, he, hr⟩ := opAt hops hjl h
 rw [w1 om, Int.toNat_natCast]
 refine ⟨⟨by omega, hlt⟩, e, he, LdR hr (NewP_run h fun n w h => StL_of (St1 h rfl fun w h => St1 h rfl fun w h => St1 h rfl fun w h => St1 h rfl fun w h => St1 h rfl fun w h => St1 h rfl fun w h => LdN h ?_))⟩
 refine call19 (spec19 (o := l[j]) h fun b w h => ?_)
 refine ifn (fun _ => k _ _ (fun h => nomatch h) h.tail) fun _ => ⟨_, ?_, j + 1, by omega, hjl, rfl, h.tail⟩
 omega
theorem spec20 {n : Nat} {w} {K : Bool -> WP} (k : ∀ b, (b = true -> n = 0 \/ n = 1 \/ n = 2 \/ n = 3 \/ n = 7 \/ n = 15 \/ n = 19 \/ n = 20 \/ n = 21 \/ n = 23) -> K b w) : F20 (n : Int) K w := by
 unfold F20
 refine ife (fun e => ife (fun _ => k _ fun _ => by omega) fun _ => k _ fun h => nomatch h) fun _ => ?_
 refine ife (fun e => ife (fun _ => k _ fun _ => by omega) fun _ => k _ fun h => nomatch h) fun _ => ?_
 refine ife (fun e => ife (fun _ => k _ fun _ => by omega) fun _ => k _ fun h => nomatch h) fun _ => ?_
 refine ife (fun e => ife (fun _ => k _ fun _ => by omega) fun _ => k _ fun h => nomatch h) fun _ => ?_
 refine ife (fun e => ife (fun _ => k _ fun _ => by omega) fun _ => k _ fun h => nomatch h) fun _ => ?_
 refine ife (fun e => ife (fun _ => k _ fun _ => by omega) fun _ => k _ fun h => nomatch h) fun _ => ?_
 refine ife (fun e => ife (fun _ => k _ fun _ => by omega) fun _ => k _ fun h => nomatch h) fun _ => ?_
 refine ife (fun e => ife (fun _ => k _ fun _ => by omega) fun _ => k _ fun h => nomatch h) fun _ => ?_
 refine ife (fun e => ife (fun _ => k _ fun _ => by omega) fun _ => k _ fun h => nomatch h) fun _ => ?_
 exact ife (fun e => k _ fun _ => by omega) fun _ => k _ fun h => nomatch h
theorem spec21 {p : Addr} {ts : List ByteArray} {R w} {K : Bool -> WP} (hl : ts.length < 2^40) (h : Sat w (Arr p (ts.map .string) :: R)) (k : ∀ b w', (b = true -> ∀ s ∈ ts, s.size <= 2^20) -> Sat w' (Arr p (ts.map .string) :: R) -> K b w') : F21 ⟨some p, ts.length, ts.length⟩ K w := by
 unfold F21
 refine ⟨fun m (z : Int) w => ∃ j : Nat, z = (j : Int) /\ j <= ts.length /\ m = ts.length - j /\ (∀ (i : Nat) (s : ByteArray), i < j -> ts[i]? = some s -> s.size <= 2^20) /\ Sat w (Arr p (ts.map .string) :: R), ⟨_, 0, rfl, Nat.zero_le _, rfl, fun i s hi => by omega, h⟩, ?_⟩
 clear h
 rintro m z w ⟨j, rfl, hj, hm, hs, h⟩
 refine ifd (fun hlt => ?_) (fun hge => k _ _ (fun _ s hs' => ?_) h)
 ·have hjl : j < ts.length := by dsimp only at hlt; omega
  have he : ts[j]? = some ts[j] := List.getElem?_eq_getElem hjl
  generalize ts[j] = s at he
  rw [w1 om, Int.toNat_natCast]
  refine ⟨⟨by omega, hlt⟩, p, rfl, LdC (v := .string s) ((h.rdL .here) (j * 1) _ (by rw [Nat.mul_one, List.getElem?_map, he]; rfl)) ?_⟩
  refine ifd (fun _ => k _ _ (fun h => nomatch h) h) fun hz => ⟨_, ?_, j + 1, rfl, hjl, rfl, fun i s' hi hs' => ?_, h⟩
  ·omega
  ·by_cases hij : i = j
   ·subst hij
    rw [he] at hs'
    injection hs' with hs'
    subst hs'
    omega
   ·exact hs i s' om hs'
 ·obtain ⟨i, hi, e⟩ := List.getElem_of_mem hs'
  dsimp only at hge
  exact hs i s om (by rw [List.getElem?_eq_getElem hi, e])
def AllKind (n : Nat) : Prop := n = 0 \/ n = 1 \/ n = 2 \/ n = 3 \/ n = 7 \/ n = 15 \/ n = 19 \/ n = 20 \/ n = 21 \/ n = 23
structure OpMost (o : OpM) : Prop where
 kind : AllKind o.kind
 key : o.key.size <= 2^20
 val : o.val.size <= 2^20
 end_ : o.end_.size <= 2^20
 suf : o.suf.size <= 2^20
theorem take_all {l : List OpM} {P : OpM -> Prop} {j : Nat} (hjl : j < l.length) (h : ∀ o ∈ l.take j, P o) (h1 : P l[j]) : ∀ o ∈ l.take (j + 1), P o := by
 rw [List.take_add_one, List.getElem?_eq_getElem hjl]
 intro o ho
 rcases List.mem_append.1 ho with ho | ho
 ·exact h o ho
 ·simp only [Option.toList_some, List.mem_singleton] at ho
  rw [ho]; exact h1
theorem spec7 {ops : Sl} {l : List OpM} {R w} {K : Bool -> WP} (hl : l.length <= 2147483647) (hops : OpsIn R ops l) (h : Sat w R) (k : ∀ b w', (b = true -> 0 < l.length /\ l.length <= 100 /\ ∀ o ∈ l, OpMost o) -> Sat w' R -> K b w') : F7 ops K w := by
 unfold F7
 have hn := hops.1
 refine ⟨fun m (z : Int) w => ∃ j : Nat, z = (j : Int) /\ j <= l.length /\ m = l.length - j /\ (∀ o ∈ l.take j, OpMost o) /\ Sat w R, ⟨_, 0, rfl, Nat.zero_le _, rfl, fun o ho => by simp at ho, h⟩, ?_⟩
 clear h
 rintro m z w ⟨j, rfl, hj, hm, hs, h⟩
 refine ifd (fun hlt => ?_) (fun hge => ?_)
 ·have hjl : j < l.length := by omega
  obtain ⟨e, he, hr⟩ := opAt hops hjl h
  rw [w1 om, Int.toNat_natCast]
  refine ⟨⟨by omega, hlt⟩, e, he, LdR hr (NewP_run h fun n w h => StL_of (St1 h rfl fun w h => St1 h rfl fun w h => St1 h rfl fun w h => St1 h rfl fun w h => St1 h rfl fun w h => St1 h rfl fun w h => Ld1 h ?_))⟩
  refine call20 (spec20 fun b hb => ?_)
  refine ifnf (fun hbt => ?_) (fun _ => k _ _ (fun h => nomatch h) h.tail)
  refine Ld1 h (Ld1 h (Ld1 h (Ld1 h (NewS_run h fun p w h => ?_))))
  refine call21 (l1 := ⟨some p, 4, 4⟩) (spec21 (ts := [l[j].key, l[j].val, l[j].end_, l[j].suf]) (show 4 < 2^40 by decide) h fun b w hb2 h => ?_)
  refine ifn (fun _ => k _ _ (fun h => nomatch h) h.tail.tail) fun hbt2 => ⟨_, ?_, j + 1, by omega, hjl, rfl, ?_, h.tail.tail⟩
  ·omega
  ·have h9 := hb2 hbt2
   refine take_all hjl hs ⟨hb hbt, h9 _ (by simp), h9 _ (by simp), h9 _ (by simp), h9 _ (by simp)⟩
 ·have hjl : j = l.length := by omega
  subst hjl
  rw [List.take_length] at hs
  refine ifd (fun h0 => k _ _ (fun hb => ?_) h) (fun _ => k _ _ (fun h => nomatch h) h)
  have := of_decide_eq_true hb
  exact ⟨by omega, by omega, hs⟩
theorem bytesLess_lcmp : ∀ x y : List UInt8, Op.bytesLess x y = decide (lcmp x y < 0)
 | [], [] => rfl
 | [], _ :: _ => rfl
 | _ :: _, [] => rfl
 | a :: s, b :: t => by
  have ih := bytesLess_lcmp s t
  unfold Op.bytesLess lcmp
  by_cases h1 : a < b
  ·rw [if_pos h1]; simp [h1]
  ·rw [if_neg h1]
   by_cases h2 : b < a
   ·rw [if_pos h2]
    have : ¬ a = b := fun e => by subst e; exact h1 h2
    simp [h1, this]
   ·rw [if_neg h2, <- ih]
    have := u8_tri a b h1 h2
    simp [this]
theorem bytesLess_b (s t : ByteArray) : Op.bytesLess s.toList t.toList = decide (bcmp s t < 0) := by
 rw [Lib.toList_data, Lib.toList_data, bytesLess_lcmp, bcmp_eq]
def OpRng (o : OpM) : Prop := (o.kind = 15 \/ o.kind = 19 \/ o.kind = 20 \/ o.kind = 21 -> bcmp o.key o.end_ < 0) /\ o.kind ≠ 3
theorem spec8 {ops : Sl} {l : List OpM} {R w} {K : Bool -> WP} (hl : l.length <= 2147483647) (hops : OpsIn R ops l) (h : Sat w R) (k : ∀ b w', (b = true -> ∀ o ∈ l, OpRng o) -> Sat w' R -> K b w') : F8 ops K w := by
 unfold F8
 have hn := hops.1
 refine ⟨fun m (z : Int) w => ∃ j : Nat, z = (j : Int) /\ j <= l.length /\ m = l.length - j /\ (∀ o ∈ l.take j, OpRng o) /\ Sat w R, ⟨_, 0, rfl, Nat.zero_le _, rfl, fun o ho => by simp at ho, h⟩, ?_⟩
 clear h
 rintro m z w ⟨j, rfl, hj, hm, hs, h⟩
 refine ifd (fun hlt => ?_) (fun hge => ?_)
 ·have hjl : j < l.length := by omega
  obtain ⟨e, he, hr⟩ := opAt hops hjl h
  rw [w1 om, Int.toNat_natCast]
  refine ⟨⟨by omega, hlt⟩, e, he, LdR hr (NewP_run h fun n w h => StL_of (St1 h rfl fun w h => St1 h rfl fun w h => St1 h rfl fun w h => St1 h rfl fun w h => St1 h rfl fun w h => St1 h rfl fun w h => ?_))⟩
  simp only [StC]
  refine Ld1 h ?_
  have hnext : OpRng l[j] -> ∀ w, Sat w R -> ∃ m', m' < m /\ ∃ j' : Nat, (((j + 1 : Nat) : Int)) = (j' : Int) /\ j' <= l.length /\ m' = l.length - j' /\ (∀ o ∈ l.take j', OpRng o) /\ Sat w R := fun ho w h => ⟨l.length - (j + 1), by omega, j + 1, rfl, hjl, rfl, take_all hjl hs ho, h⟩
  refine ⟨fun b w => b = decide (l[j].kind = 15 \/ l[j].kind = 19 \/ l[j].kind = 20 \/ l[j].kind = 21) /\ Sat w (Arr n [.int .u8 (l[j].kind : Int), .string l[j].key, .string l[j].val, .string l[j].end_, .string l[j].suf, .int .u32 (l[j].size : Int)] :: R), ?_, ?_⟩
  ·clear h
   rintro b w ⟨hb, h⟩
   refine ifb (fun hbt => ?_) (fun hbf => ?_)
   ·rw [hbt] at hb
    have hk := of_decide_eq_true hb.symm
    refine Ld1 h (Ld1 h ?_)
    rw [bytesLess_b]
    refine ifn (fun _ => k _ _ (fun h => nomatch h) h.tail) fun hlt2 => hnext ⟨fun _ => of_decide_eq_true hlt2, by omega⟩ w h.tail
   ·rw [hbf] at hb
    have hk := of_decide_eq_false hb.symm
    refine ife (fun _ => k _ _ (fun h => nomatch h) h.tail) fun h3 => hnext ⟨fun h9 => absurd h9 hk, by omega⟩ w h.tail
  ·refine ife (fun h1 => ⟨?_, h⟩) fun h1 => ife (fun h2 => ⟨?_, h⟩) fun h2 => ife (fun h3 => ⟨?_, h⟩) fun h3 => ⟨?_, h⟩
   ·rw [decide_eq_true (show l[j].kind = 15 \/ l[j].kind = 19 \/ l[j].kind = 20 \/ l[j].kind = 21 by omega)]; simpa using h1
   ·rw [decide_eq_true (show l[j].kind = 15 \/ l[j].kind = 19 \/ l[j].kind = 20 \/ l[j].kind = 21 by omega)]; simpa using h2
   ·rw [decide_eq_true (show l[j].kind = 15 \/ l[j].kind = 19 \/ l[j].kind = 20 \/ l[j].kind = 21 by omega)]; simpa using h3
   ·rw [Bool.eq_iff_iff, decide_eq_true_eq, beq_iff_eq]; omega
 ·have hjl : j = l.length := by omega
  subst hjl
  rw [List.take_length] at hs
  exact k _ _ (fun _ => hs) h
theorem spec10 {ops : Sl} {l : List OpM} {R w} {K : Sl -> WP} (hl : l.length <= 512) (hops : OpsIn R ops l) (h : Sat w R) (k : ∀ out w', out.n = l.length -> Sat w' (Buf 6 out (l.flatMap oc) :: R) -> K out w') : F10 ops K w := by
 unfold F10
 have hn := hops.1
 refine ⟨fun m (z : Sl × Int) w => ∃ j : Nat, z.2 = (j : Int) /\ j <= l.length /\ m = l.length - j /\ z.1.n = j /\ Sat w (Buf 6 z.1 ((l.take j).flatMap oc) :: R), ⟨_, 0, rfl, Nat.zero_le _, rfl, rfl, h.bufNil 6⟩, ?_⟩
 clear h
 rintro m ⟨out, z⟩ w ⟨j, e, hj, hm, hon, h⟩
 dsimp only at e hon h |-
 subst e
 refine ifd (fun hlt => ?_) (fun hge => ?_)
 ·have hjl : j < l.length := by omega
  obtain ⟨e, he, hr⟩ := opAt hops hjl h.tail
  rw [w1 om, Int.toNat_natCast]
  refine ⟨⟨by omega, hlt⟩, e, he, LdR hr (NewP_run h fun n w h => StL_of (St1 h rfl fun w h => St1 h rfl fun w h => St1 h rfl fun w h => St1 h rfl fun w h => St1 h rfl fun w h => St1 h rfl fun w h => LdN h (NewS_run h fun p w h => ?_)))⟩
  refine App1 (k := 6) rfl h .k2 .here rfl (ones_of rfl) ?_ om fun r w er ea h => ?_
  ·show (2 * (out.n + 1) + 1024) * 80 <= _
   omega
  refine ⟨_, ?_, j + 1, rfl, hjl, rfl, by omega, ?_⟩
  ·omega
  ·have e1 : l.take (j + 1) = l.take j ++ [l[j]] := by rw [List.take_add_one, List.getElem?_eq_getElem hjl]; rfl
   rw [e1, List.flatMap_append, List.flatMap_singleton]
   exact (h.mv 1).tail.mv 1 |>.tail
 ·have hjl : j = l.length := by omega
  subst hjl
  rw [List.take_length] at h
  exact k out w hon h
theorem OpsIn.buf {R} {out : Sl} {l : List OpM} (hn : out.n = l.length) : OpsIn (Buf 6 out (l.flatMap oc) :: R) out l := by
 refine ⟨hn, fun w h j o e => ?_⟩
 have hne : l.flatMap oc ≠ [] := fun h0 => by
  have := flat_get (f := oc) (k := 6) l (fun _ => rfl) j 0 o _ e rfl
  rw [h0] at this
  simp at this
 obtain ⟨a, ha, hr⟩ := bufRd h hne
 refine ⟨a, ha, fun i v hi => ?_⟩
 rw [Addr.add_add]
 exact hr _ v (flat_get (f := oc) (k := 6) l (fun _ => rfl) j i o v e hi)
abbrev SV := ByteArray × ByteArray
theorem flat_len_k {α : Type} {f : α -> List Value} {k : Nat} (hf : ∀ x, (f x).length = k) : ∀ l : List α, (l.flatMap f).length = l.length * k
 | [] => by simp
 | x :: l => by rw [List.flatMap_cons, List.length_append, hf, flat_len_k hf l, List.length_cons, Nat.add_mul, Nat.one_mul, Nat.add_comm]
theorem rowBuf {α : Type} {f : α -> List Value} {k : Nat} (hf : ∀ x, (f x).length = k) (hk : 0 < k) {d : Sl} {l : List α} {j : Nat} {x : α} {L R w} (h : Sat w L) (t : Take L (Buf k d (l.flatMap f)) R) (e : l[j]? = some x) : ∃ a, d.a = some a /\ RdL w (a.add (j * k)) (f x) := by
 have hlt : 0 < (f x).length := by rw [hf]; exact hk
 have h0 : (f x)[0]? = some ((f x)[0]'hlt) := List.getElem?_eq_getElem hlt
 obtain ⟨a, ha, _⟩ := rdBuf h t (flat_get (f := f) l hf j 0 x _ e h0)
 refine ⟨a, ha, fun i v hi => ?_⟩
 obtain ⟨a', ha', hv⟩ := rdBuf h t (flat_get (f := f) l hf j i x v e hi)
 rw [ha] at ha'
 injection ha' with ha'
 rw [Addr.add_add, ha']
 exact hv
def rsStep (k : KeyM) (out : List SV) : List SV := if k.tr % 256 = 19 then [] else (out.filter fun p => decide (p.1 ≠ k.suf)) ++ (if k.tr % 256 = 21 then [(k.suf, k.val)] else [])
def rsAll (ks : List KeyM) (s0 : List SV) : List SV := ks.foldr rsStep s0
structure SvRes (s res : List SV) : Prop where
 perm : res.Perm s
 so : res.Pairwise fun a b => bcmp a.1 b.1 <= 0
def bsIn (kb : ByteArray) (o : OpM) : Bool := decide ((o.kind = 19 \/ o.kind = 20 \/ o.kind = 21) /\ bcmp o.key kb <= 0 /\ bcmp kb o.end_ < 0)
def bsKey (o : OpM) : KeyM := ⟨(o.kind : Int), o.suf, o.val⟩
def bsKeys (kb : ByteArray) (l : List OpM) : List KeyM := ((l.filter (bsIn kb)).map bsKey).reverse
theorem rsStep_congr {k k' : KeyM} (h1 : k.tr % 256 = k'.tr % 256) (h2 : k.tr % 256 ≠ 19 -> k.suf = k'.suf) (h3 : k.tr % 256 = 21 -> k.val = k'.val) (s : List SV) : rsStep k s = rsStep k' s := by
 unfold rsStep
 rw [<- h1]
 by_cases e : k.tr % 256 = 19
 ·rw [if_pos e, if_pos e]
 ·rw [if_neg e, if_neg e, h2 e]
  by_cases e2 : k.tr % 256 = 21
  ·rw [if_pos e2, if_pos e2, h3 e2]
  ·rw [if_neg e2, if_neg e2]
theorem rsAll_congr {α : Type} {f g : α -> KeyM} {s0 : List SV} : ∀ {l : List α}, (∀ x ∈ l, ∀ s, rsStep (f x) s = rsStep (g x) s) -> rsAll (l.map f) s0 = rsAll (l.map g) s0
 | [], _ => rfl
 | x :: l, h => by
  show rsStep (f x) (rsAll (l.map f) s0) = rsStep (g x) (rsAll (l.map g) s0)
  rw [rsAll_congr fun y hy => h y (by simp [hy]), h x (by simp)]
theorem rsStep_nodup (k : KeyM) {s : List SV} (h : (s.map Prod.fst).Nodup) : ((rsStep k s).map Prod.fst).Nodup := by
 unfold rsStep
 split
 ·simp
 ·rw [List.map_append, List.nodup_append]
  refine ⟨(List.filter_sublist.map _).nodup h, by split <;> simp, fun a ha b hb e => ?_⟩
  subst e
  obtain ⟨p, hp, rfl⟩ := List.mem_map.1 ha
  have h1 := of_decide_eq_true (List.mem_filter.1 hp).2
  split at hb
  ·simp at hb; exact h1 hb
  ·simp at hb
theorem rsAll_nodup {s0 : List SV} (h : (s0.map Prod.fst).Nodup) : ∀ ks : List KeyM, ((rsAll ks s0).map Prod.fst).Nodup
 | [] => h
 | k :: ks => rsStep_nodup k (rsAll_nodup h ks)
theorem rsAll_app (a b : List KeyM) (s : List SV) : rsAll (a ++ b) s = rsAll a (rsAll b s) := by unfold rsAll; rw [List.foldr_append]
theorem rs_mem_aux : ∀ (n : Nat) (ms : List KeyM), ms.length = n -> ms.Pairwise (fun a b => a.tr < b.tr) -> ∀ s v, (s, v) ∈ rsAll ms.reverse [] ↔ ∃ m ∈ ms, m.tr % 256 = 21 /\ m.suf = s /\ m.val = v /\ ∀ m' ∈ ms, m.tr < m'.tr -> m'.tr % 256 ≠ 19 /\ m'.suf ≠ s
 | 0, ms, hn, _, s, v => by
  have := List.length_eq_zero_iff.1 hn
  subst this
  simp [rsAll]
 | n + 1, ms, hn, hp, s, v => by
  rcases List.eq_nil_or_concat ms with rfl | ⟨ms', k, rfl⟩
  ·simp at hn
  rw [List.concat_eq_append] at hn hp |-
  rw [List.length_append, List.length_cons, List.length_nil] at hn
  rw [List.pairwise_append] at hp
  obtain ⟨hp1, _, hp2⟩ := hp
  have hk : ∀ m ∈ ms', m.tr < k.tr := fun m hm => hp2 m hm k (by simp)
  have ih := rs_mem_aux n ms' om hp1 s v
  rw [List.reverse_append, List.reverse_singleton]
  show (s, v) ∈ rsStep k (rsAll ms'.reverse []) ↔ _
  unfold rsStep
  by_cases e : k.tr % 256 = 19
  ·rw [if_pos e]
   refine ⟨fun h => by simp at h, ?_⟩
   rintro ⟨m, hm, h1, h2, h3, h4⟩
   rcases List.mem_append.1 hm with hm | hm
   ·exact absurd e (h4 k (by simp) (hk m hm)).1
   ·rw [List.mem_singleton.1 hm] at h1; omega
  ·rw [if_neg e, List.mem_append, List.mem_filter, ih, decide_eq_true_eq]
   constructor
   ·rintro (⟨⟨m, hm, h1, h2, h3, h4⟩, h5⟩ | h)
    ·refine ⟨m, by simp [hm], h1, h2, h3, fun m' hm' hlt => ?_⟩
     rcases List.mem_append.1 hm' with hm' | hm'
     ·exact h4 m' hm' hlt
     ·rw [List.mem_singleton.1 hm']; exact ⟨e, fun h => h5 h.symm⟩
    ·split at h
     ·rename_i e2
      rw [List.mem_singleton] at h
      injection h with h1 h2
      refine ⟨k, by simp, e2, h1.symm, h2.symm, fun m' hm' hlt => ?_⟩
      rcases List.mem_append.1 hm' with hm' | hm'
      ·have := hk m' hm'; omega
      ·rw [List.mem_singleton.1 hm'] at hlt; omega
     ·simp at h
   ·rintro ⟨m, hm, h1, h2, h3, h4⟩
    rcases List.mem_append.1 hm with hm | hm
    ·refine .inl ⟨⟨m, hm, h1, h2, h3, fun m' hm' hlt => h4 m' (by simp [hm']) hlt⟩, fun h => (h4 k (by simp) (hk m hm)).2 h.symm⟩
    ·rw [List.mem_singleton.1 hm] at h1 h2 h3
     refine .inr ?_
     rw [if_pos h1, h2, h3]; simp
theorem SvRes.sorted {s res : List SV} (h : SvRes s res) (nd : (s.map Prod.fst).Nodup) : res.Pairwise fun a b => bcmp a.1 b.1 < 0 := by
 have nd' : (res.map Prod.fst).Nodup := (h.perm.map _).nodup_iff.2 nd
 have h2 : res.Pairwise fun a b => a.1 ≠ b.1 := List.pairwise_map.1 nd'
 exact (h.so.and h2).imp fun {a b} ⟨x, y⟩ => by
  rcases Int.lt_or_eq_of_le x with x | x
  ·exact x
  ·exact absurd (bcmp_zero x) y
theorem IsC.of_rs {sn : Int} {ms : List KeyM} {res : List SV} (hp : ms.Pairwise fun a b => a.tr < b.tr) (hv : ∀ m ∈ ms, m.tr / 256 < sn) (h : SvRes (rsAll ms.reverse []) res) : IsC sn ms res := by
 refine ⟨h.sorted (rsAll_nodup (by simp) _), fun s v => ?_⟩
 rw [h.perm.mem_iff, rs_mem_aux _ ms rfl hp s v]
 constructor
 ·rintro ⟨m, hm, h1, h2, h3, h4⟩
  exact ⟨m, hm, hv m hm, h1, h2, h3, fun m' hm' _ hlt => h4 m' hm' hlt⟩
 ·rintro ⟨m, hm, _, h1, h2, h3, h4⟩
  exact ⟨m, hm, h1, h2, h3, fun m' hm' hlt => h4 m' hm' (hv m' hm') hlt⟩
theorem IsC.of_mem {sn : Int} {ms ms' : List KeyM} {res : List SV} (hm : ∀ m, m.tr / 256 < sn -> (m ∈ ms ↔ m ∈ ms')) (h : IsC sn ms res) : IsC sn ms' res := by
 refine ⟨h.so, fun s v => ?_⟩
 rw [h.mem]
 constructor
 ·rintro ⟨m, h0, h1, h2, h3, h4, h5⟩
  exact ⟨m, (hm m h1).1 h0, h1, h2, h3, h4, fun m' g0 g1 g2 => h5 m' ((hm m' g1).2 g0) g1 g2⟩
 ·rintro ⟨m, h0, h1, h2, h3, h4, h5⟩
  exact ⟨m, (hm m h1).2 h0, h1, h2, h3, h4, fun m' g0 g1 g2 => h5 m' ((hm m' g1).1 g0) g1 g2⟩
theorem IsC.nil {sn : Int} : IsC sn [] [] := ⟨List.Pairwise.nil, fun s v => by simp⟩
def eKey (e : EntM) : KeyM := ⟨(e.tr : Int), rkSuf e.op.kind e.op.suf, rkV e.op.kind e.op.val⟩
def entIn (kb : ByteArray) (l : List OpM) : List EntM := (entL l).filter fun e => bsIn kb e.op
theorem isRK_in (kb : ByteArray) (e : EntM) : bsIn kb e.op = (isRK e && (decide (bcmp e.op.key kb <= 0) && decide (bcmp kb e.op.end_ < 0))) := by
 unfold bsIn isRK
 rw [Bool.eq_iff_iff]
 simp only [decide_eq_true_eq, Bool.and_eq_true]
theorem covK_ent (kb : ByteArray) (l : List OpM) : covK (((entL l).filter isRK).map spanOf) kb = (entIn kb l).map eKey := by
 unfold entIn
 generalize entL l = E
 induction E with
 | nil => rfl
 | cons e E ih =>
  unfold covK at ih |-
  rw [List.filter_cons, List.filter_cons (p := fun (e : EntM) => bsIn kb e.op), isRK_in kb e]
  cases h : isRK e with
  | false => simpa using ih
  | true =>
   rw [Bool.true_and, if_pos rfl, List.map_cons, List.filter_cons]
   by_cases h2 : (decide (bcmp e.op.key kb <= 0) && decide (bcmp kb e.op.end_ < 0)) = true
   ·rw [if_pos h2]
    have h3 : (decide (bcmp (spanOf e).lo kb <= 0) && decide (bcmp kb (spanOf e).hi < 0)) = true := h2
    rw [if_pos h3, List.flatMap_cons, ih, List.map_cons]; rfl
   ·rw [if_neg h2]
    have h3 : ¬ (decide (bcmp (spanOf e).lo kb <= 0) && decide (bcmp kb (spanOf e).hi < 0)) = true := h2
    rw [if_neg h3, ih]
theorem bsKeys_ent (kb : ByteArray) (l : List OpM) : bsKeys kb l = ((entIn kb l).map fun e => bsKey e.op).reverse := by
 unfold bsKeys entIn
 congr 1
 have h : (entL l).map (·.op) = l := ents_op l 0 12
 conv => lhs; rw [<- h]
 rw [List.filter_map, List.map_map]; rfl
theorem bsKey_step {e : EntM} (ho : OpOK e.op) (s : List SV) : rsStep (bsKey e.op) s = rsStep (eKey e) s := by
 have hk := ho.kind
 unfold OpKind at hk
 have e1 : (bsKey e.op).tr % 256 = (e.op.kind : Int) := by show ((e.op.kind : Nat) : Int) % 256 = _; omega
 have e2 : (eKey e).tr % 256 = (e.op.kind : Int) := by show (((e.i * 256 + e.op.kind : Nat)) : Int) % 256 = _; omega
 refine rsStep_congr (e1.trans e2.symm) (fun h => ?_) (fun h => ?_) s
 ·rw [e1] at h
  show e.op.suf = rkSuf e.op.kind e.op.suf
  unfold rkSuf
  rw [if_neg om]
 ·rw [e1] at h
  show e.op.val = rkV e.op.kind e.op.val
  unfold rkV
  rw [if_pos om]
theorem entIn_op {kb : ByteArray} {l : List OpM} (hl : ∀ o ∈ l, OpOK o) : ∀ e ∈ entIn kb l, OpOK e.op := fun e he => by
 have h1 : e.op ∈ (entL l).map (·.op) := List.mem_map.2 ⟨e, (List.mem_filter.1 he).1, rfl⟩
 rw [show (entL l).map (·.op) = l from ents_op l 0 12] at h1
 exact hl _ h1
theorem batch_rs {kb : ByteArray} {l : List OpM} (hl : ∀ o ∈ l, OpOK o) (s0 : List SV) : rsAll (bsKeys kb l) s0 = rsAll ((entIn kb l).map eKey).reverse s0 := by
 rw [bsKeys_ent, <- List.map_reverse, <- List.map_reverse]
 exact rsAll_congr fun e he s => bsKey_step (entIn_op hl e (List.mem_reverse.1 he)) s
theorem ents_tr : ∀ (l : List OpM) (i off : Nat), (∀ o ∈ l, OpOK o) -> (ents i off l).Pairwise fun a b => a.tr < b.tr
 | [], _, _, _ => List.Pairwise.nil
 | o :: l, i, off, h => by
  refine List.pairwise_cons.2 ⟨fun e he => ?_, ents_tr l _ _ fun x hx => h x (by simp [hx])⟩
  have h1 := (ents_i l (i + 1) _ e he).1
  have h2 : o.kind <= 23 := by have := (h o (by simp)).kind; unfold OpKind at this; omega
  unfold EntM.tr
  dsimp only
  omega
theorem entIn_tr {kb : ByteArray} {l : List OpM} (hl : ∀ o ∈ l, OpOK o) : ((entIn kb l).map eKey).Pairwise fun a b => a.tr < b.tr := by
 refine List.pairwise_map.2 (((ents_tr l 0 12 hl).sublist List.filter_sublist).imp fun {a b} h => ?_)
 show (a.tr : Int) < (b.tr : Int)
 omega
theorem eKey_props {kb : ByteArray} {l : List OpM} (hl : ∀ o ∈ l, OpOK o) (hn : l.length <= 512) : ∀ m ∈ (entIn kb l).map eKey, (0 <= m.tr /\ m.tr < 512 * 256 /\ (m.tr % 256 = 19 \/ m.tr % 256 = 20 \/ m.tr % 256 = 21)) /\ m.suf.size < 2^40 /\ m.val.size < 2^40 := by
 intro m hm
 obtain ⟨e, he, rfl⟩ := List.mem_map.1 hm
 have ho := entIn_op hl e he
 obtain ⟨h1, h2⟩ := List.mem_filter.1 he
 have hk := (of_decide_eq_true h2).1
 have hi := (ents_i l 0 12 e h1).2
 have hs := ho.suf
 have hv := ho.val
 refine ⟨?_, ?_, ?_⟩
 ·show 0 <= (((e.i * 256 + e.op.kind : Nat)) : Int) /\ (((e.i * 256 + e.op.kind : Nat)) : Int) < _ /\ ((((e.i * 256 + e.op.kind : Nat)) : Int) % 256 = 19 \/ (((e.i * 256 + e.op.kind : Nat)) : Int) % 256 = 20 \/ (((e.i * 256 + e.op.kind : Nat)) : Int) % 256 = 21)
  omega
 ·show (rkSuf e.op.kind e.op.suf).size < _
  unfold rkSuf
  split
  ·decide
  ·omega
 ·show (rkV e.op.kind e.op.val).size < _
  unfold rkV
  split
  ·omega
  ·decide
theorem entIn_len (kb : ByteArray) (l : List OpM) : (entIn kb l).length <= l.length := by
 have := List.length_filter_le (fun e : EntM => bsIn kb e.op) (entL l)
 rw [entL_len] at this
 exact this
theorem RngOK.at {l : List OpM} {ss : List SpanM} (h : RngOK l ss) (y : ByteArray) : (keysOf ss y).Perm ((entIn y l).map eKey) := by
 have := h.ks y
 rwa [covK_ent] at this
theorem RngOK.key {l : List OpM} {ss : List SpanM} (h : RngOK l ss) : ∀ s ∈ ss, s.keys.Perm ((entIn s.lo l).map eKey) := by
 intro s hs
 obtain ⟨j, hj, e⟩ := List.getElem_of_mem hs
 have hj' : ss[j]? = some s := by rw [List.getElem?_eq_getElem hj, e]
 have h2 : covs ss s.lo = some s := covs_at h.ok hj' (by rw [bcmp_refl]; exact Int.le_refl _) (h.ok.ne j s hj')
 have h3 := h.at s.lo
 unfold keysOf at h3
 rw [h2] at h3
 exact h3
def keysL (ls : List (List SpanM)) (y : ByteArray) : List KeyM := ls.flatMap fun ss => match covs ss y with | some s => s.keys | none => []
structure LG (ls : List (List SpanM)) : Prop where
 k : ls.length <= 10
 ok : ∀ ss ∈ ls, SpansOK ss
 n : ∀ ss ∈ ls, ss.length < 2^32
 kl : ∀ ss ∈ ls, ∀ s ∈ ss, s.keys.length <= 1048576
 kt : ∀ ss ∈ ls, ∀ s ∈ ss, ∀ m ∈ s.keys, 0 <= m.tr /\ m.tr < 9223372036854775808 /\ (m.tr % 256 = 19 \/ m.tr % 256 = 20 \/ m.tr % 256 = 21)
 kz : ∀ ss ∈ ls, ∀ s ∈ ss, ∀ m ∈ s.keys, m.suf.size < 2^40 /\ m.val.size < 2^40
 nd : ∀ y, ((keysL ls y).map (·.tr)).Nodup
def AnsL (ls : List (List SpanM)) (sn : Int) (kb : ByteArray) (okk : Bool) (lo hi : ByteArray) (ks : List KeyM) : Prop :=
 (okk = false /\ ks = [] /\ keysL ls kb = []) \/ (okk = true /\ ((bcmp lo kb <= 0 /\ bcmp kb hi < 0 /\ IsC sn (keysL ls kb) (ks.map svOf)) \/ (bcmp kb lo < 0 /\ keysL ls kb = [])))
theorem keysAt_L {c : MC} {ls : List (List SpanM)} (hk : c.k = ls.length) (hS : ∀ i (hi : i < ls.length), (c.S i).spans = ls[i]) (y : ByteArray) : keysAt c y = keysL ls y := by
 unfold keysAt keysL
 rw [hk]
 have : ∀ n, n <= ls.length -> (List.range n).flatMap (fun l => match covs (c.S l).spans y with | some s => s.keys | none => []) = (ls.take n).flatMap fun ss => match covs ss y with | some s => s.keys | none => [] := by
  intro n
  induction n with
  | zero => intro _; rfl
  | succ n ih =>
   intro hn
   have hnl : n < ls.length := by omega
   rw [List.range_succ, List.flatMap_append, ih om, List.take_add_one, List.getElem?_eq_getElem hnl, List.flatMap_append]
   simp [hS n hnl]
 have h := this ls.length (Nat.le_refl _)
 rwa [List.take_length] at h
theorem covd_L {c : MC} {y : ByteArray} (h : ¬ covd c y) : keysAt c y = [] := by
 unfold keysAt
 rw [List.flatMap_eq_nil_iff]
 intro l hl
 cases e : covs (c.S l).spans y with
 | none => rfl
 | some s => exact absurd ⟨l, List.mem_range.1 hl, by rw [e]; simp⟩ h
def ui70 : List Value := ([.pointer none, .slice none 0 0, .slice none 0 0, .nilIface, .slice none 0 0, .slice none 0 0, .slice none 0 0, .int .i8 (0 : Int), .nilIface, .int .i8 (0 : Int)] ++ flat zrow 10 ++ flat (fun _ => [.pointer none, .int .i64 (0 : Int)]) 10)
theorem ui70_len : ui70.length = 70 := rfl
theorem finUser {D} {n8 q bf sp : Addr} {sn : Int} {S : Nat -> LevS} {ls : List (List SpanM)} {it : Sl} {kb : ByteArray} {R w} {K : Sl -> WP} (lg : LG ls) (hS : ∀ i (hi : i < ls.length), (S i).ok D /\ (S i).spans = ls[i]) (hit : it.n = ls.length)
  (h : Sat w (Arr n8 [.int .u64 (0 : Int), .pointer none, .pointer none, .slice none 0 0, .slice none 0 0, .nilIface, .slice none 0 0, .slice none 0 0, .slice none 0 0, .int .i8 (0 : Int), .nilIface, .int .i8 (0 : Int), .nilIface, .int .i8 (0 : Int), .slice none 0 0, .pointer none, .nilIface, .int .i8 (0 : Int), .slice none 0 0, .pointer none, .nilIface, .int .i8 (0 : Int), .slice none 0 0, .pointer none, .nilIface, .int .i8 (0 : Int), .slice none 0 0, .pointer none, .nilIface, .int .i8 (0 : Int), .slice none 0 0, .pointer none, .nilIface, .int .i8 (0 : Int), .slice none 0 0, .pointer none, .nilIface, .int .i8 (0 : Int), .slice none 0 0, .pointer none, .nilIface, .int .i8 (0 : Int), .slice none 0 0, .pointer none, .nilIface, .int .i8 (0 : Int), .slice none 0 0, .pointer none, .nilIface, .int .i8 (0 : Int), .slice none 0 0, .pointer none, .pointer none, .int .i64 (0 : Int), .pointer none, .int .i64 (0 : Int), .pointer none, .int .i64 (0 : Int), .pointer none, .int .i64 (0 : Int), .pointer none, .int .i64 (0 : Int), .pointer none, .int .i64 (0 : Int), .pointer none, .int .i64 (0 : Int), .pointer none, .int .i64 (0 : Int), .pointer none, .int .i64 (0 : Int), .pointer none, .int .i64 (0 : Int), .nilIface, .pointer none, .nilFunc, .nilFunc, .slice none 0 0, .slice none 0 0, .pointer none, .pointer none, .int .i8 (0 : Int), .pointer none, .pointer none, .nilFunc, .nilIface, .pointer none, .int .i8 (0 : Int), .slice none 0 0, .slice none 0 0, .slice none 0 0, .int .i8 (0 : Int), .nilIface, .nilFunc, .bool false, .pointer none] :: Arr q cmpCs :: Arr bf [.slice none 0 0, .slice none 0 0, .nilFunc, .bool false, .slice none 0 0, .slice none 0 0, .slice none 0 0, .slice none 0 0, .slice none 0 0, .nilFunc, .slice none 0 0] :: Own D :: Buf 1 it (itVs S ls.length) :: Fam ls.length (itF S) :: Arr sp [.int .u8 4, .string kb] :: R))
  (k : ∀ out okk lo hi kx ks w', AnsL ls sn kb okk lo hi ks -> out.n = 1 -> kx.n = ks.length -> ks.length < 2^32 -> Sat w' (Buf 5 out [.bool true, .bool okk, .string lo, .string hi, .slice kx.a kx.n kx.c] :: Buf 3 kx (ks.flatMap pkc) :: Arr sp [.int .u8 4, .string kb] :: R) -> K out w') :
  CallF Tryz.prog 33 [.pointer (some n8), .pointer (some q), .int .u64 sn, .slice none 0 0, .slice none 0 0, .pointer none, .pointer none, .bool false, .pointer (some bf), .slice it.a it.n it.c] [(.one .ifc)] (fun (r16 : IV) w => CallF Tryz.prog 32 [(IV.enc r16), .slice (some sp) 1 1] [(.one .sl)] (fun (r17 : Sl) w => K r17 w) w) w := by
 obtain ⟨G, g, hg, l1, l2, h1⟩ := Sat.absorb (c := Arr q cmpCs) ((h.mv 1).mv 3)
 have hG : ∀ i v, cmpCs[i]? = some v -> DAt G (q.add i) v := fun i v e => ⟨false, l2 _ _ (hg.1 i v e)⟩
 have h2 : Sat w (Arr n8 (List.flatten [[.int .u64 (0 : Int), .pointer none], ui70, [.nilIface, .pointer none, .nilFunc, .nilFunc, .slice none 0 0, .slice none 0 0, .pointer none, .pointer none, .int .i8 (0 : Int)], [.pointer none, .pointer none, .nilFunc, .nilIface, .pointer none, .int .i8 (0 : Int), .slice none 0 0, .slice none 0 0, .slice none 0 0, .int .i8 (0 : Int), .nilIface, .nilFunc], [.bool false], [.pointer none]]) :: Own G :: Arr bf (List.flatten [[.slice none 0 0, .slice none 0 0], [.nilFunc, .bool false, .slice none 0 0], [.slice none 0 0], [.slice none 0 0, .slice none 0 0, .slice none 0 0], [.nilFunc, .slice none 0 0]]) :: Buf 1 it (itVs S ls.length) :: Fam ls.length (itF S) :: Arr sp [.int .u8 4, .string kb] :: R) := h1.mv 1
 have h3 := (Sat.splits _ h2)
 have h4 : Sat w (Arr bf (List.flatten [[.slice none 0 0, .slice none 0 0], [.nilFunc, .bool false, .slice none 0 0], [.slice none 0 0], [.slice none 0 0, .slice none 0 0, .slice none 0 0], [.nilFunc, .slice none 0 0]]) :: Arr n8 [.int .u64 (0 : Int), .pointer none] :: Arr (n8.add 2) ui70 :: Arr (n8.add 72) [.nilIface, .pointer none, .nilFunc, .nilFunc, .slice none 0 0, .slice none 0 0, .pointer none, .pointer none, .int .i8 (0 : Int)] :: Arr (n8.add 81) [.pointer none, .pointer none, .nilFunc, .nilIface, .pointer none, .int .i8 (0 : Int), .slice none 0 0, .slice none 0 0, .slice none 0 0, .int .i8 (0 : Int), .nilIface, .nilFunc] :: Arr (n8.add 93) [.bool false] :: Arr (n8.add 94) [.pointer none] :: Own G :: Buf 1 it (itVs S ls.length) :: Fam ls.length (itF S) :: Arr sp [.int .u8 4, .string kb] :: R) := h3.mv 7
 have h5 : Sat w (Arr bf [.slice none 0 0, .slice none 0 0] :: Arr (bf.add 2) [.nilFunc, .bool false, .slice none 0 0] :: Arr (bf.add 5) [.slice none 0 0] :: Arr (bf.add 6) [.slice none 0 0, .slice none 0 0, .slice none 0 0] :: Arr (bf.add 9) [.nilFunc, .slice none 0 0] ::
   Arr n8 [.int .u64 (0 : Int), .pointer none] :: Arr (n8.add 2) ui70 :: Arr (n8.add 72) [.nilIface, .pointer none, .nilFunc, .nilFunc, .slice none 0 0, .slice none 0 0, .pointer none, .pointer none, .int .i8 (0 : Int)] :: Arr (n8.add 81) [.pointer none, .pointer none, .nilFunc, .nilIface, .pointer none, .int .i8 (0 : Int), .slice none 0 0, .slice none 0 0, .slice none 0 0, .int .i8 (0 : Int), .nilIface, .nilFunc] :: Arr (n8.add 93) [.bool false] :: Arr (n8.add 94) [.pointer none] :: Own G :: Buf 1 it (itVs S ls.length) :: Fam ls.length (itF S) :: Arr sp [.int .u8 4, .string kb] :: R) := Sat.splits _ h4
 have hS2 : ∀ i (hi : i < ls.length), (S i).ok G := fun i hi => (hS i hi).1.mono l1
 have hsp : ∀ i (hi : i < ls.length), (S i).spans = ls[i] := fun i hi => (hS i hi).2
 refine call33 (lower_4 := nl) (upper_5 := nl) (iters10 := it) (spec33 (R := Arr sp [.int .u8 4, .string kb] :: R) (S := S) (n := ls.length) ui70_len rfl rfl lg.k hit (hG 0 _ rfl) (hG 1 _ rfl) (hG 5 _ rfl) ((((((((((((((h5.mv 11).mv 13).mv 13).mv 7).mv 7).mv 7).mv 7).mv 7).mv 13).mv 13).mv 13).mv 13).mv 13).mv 13) fun w h => ?_)
 have hkL : ∀ y, keysAt (mc0 G (n8.add 2) bf n8 ls.length S) y = keysL ls y := keysAt_L rfl hsp
 have cx : CtxOK (mc0 G (n8.add 2) bf n8 ls.length S) ⟨n8, bf, q, sn⟩ := by
  refine ⟨⟨lg.k, fun l hl => hS2 l hl⟩, fun l hl => ?_, fun l hl x hx => ?_, hG 1 _ rfl, rfl, fun l hl x hx m hm => ?_, fun y => by rw [hkL]; exact lg.nd y⟩
  ·show SpansOK (S l).spans
   rw [hsp l hl]; exact lg.ok _ (List.getElem_mem hl)
  ·replace hx : x ∈ (S l).spans := hx
   rw [hsp l hl] at hx
   exact ⟨lg.kl _ (List.getElem_mem hl) x hx, lg.kt _ (List.getElem_mem hl) x hx⟩
  ·replace hx : x ∈ (S l).spans := hx
   rw [hsp l hl] at hx
   exact lg.kz _ (List.getElem_mem hl) x hx m hm
 refine call32 (steps2 := ⟨some sp, 1, 1⟩) (spec32 (kb := kb) cx (hG 0 _ rfl) h fun out okk lo hi kx ks w ha ho hk hl h => k out okk lo hi kx ks w ?_ ho hk hl h)
 rcases ha with ⟨h1, h2, h3⟩ | ⟨h1, h2⟩
 ·exact .inl ⟨h1, h2, by rw [<- hkL]; exact covd_L h3⟩
 ·refine .inr ⟨h1, ?_⟩
  rcases h2 with ⟨g1, g2, g3⟩ | ⟨g1, g2⟩
  ·exact .inl ⟨g1, g2, by rw [<- hkL]; exact g3⟩
  ·exact .inr ⟨g1, by rw [<- hkL]; exact covd_L g2⟩
theorem spec34 {L w} {K : Sl -> WP} (h : Sat w L) (k : ∀ w', Sat w' L -> K nl w') : F34 (.empty, false) K w := by
 unfold F34
 exact NewP_run h fun p w h => Ld1 h (ifn (fun _ => k w h.tail) fun hh => by cases hh)
theorem spec13 {levels : Sl} {zs : Nat -> Sl} {ys : Nat -> Nat -> Sl} {ls : List (List SpanM)} {sp : Addr} {kb : ByteArray} {sn : Int} {R w} {K : Sl -> WP} (lg : LG ls) (hrd : ∀ w, Sat w R -> PLevRd w levels zs ys ls) (h : Sat w (Arr sp [.int .u8 4, .string kb] :: R))
  (k : ∀ out okk lo hi kx ks w', AnsL ls sn kb okk lo hi ks -> out.n = 1 -> kx.n = ks.length -> ks.length < 2^32 -> Sat w' (Buf 5 out [.bool true, .bool okk, .string lo, .string hi, .slice kx.a kx.n kx.c] :: Buf 3 kx (ks.flatMap pkc) :: Arr sp [.int .u8 4, .string kb] :: R) -> K out w') :
  F13 levels sn (.empty, false) (.empty, false) ⟨some sp, 1, 1⟩ K w := by
 have hk := lg.k
 have hss : ∀ ss ∈ ls, ss.length < 2^32 /\ ∀ s ∈ ss, s.keys.length < 2^32 := fun ss h => ⟨lg.n ss h, fun s hs => by have := lg.kl ss h s hs; omega⟩
 unfold F13
 refine NewP_run h fun n6 w h => NewP_run h fun n7 w h => NewP_run h fun n8 w h => ?_
 refine LdN h (LdN h ?_)
 replace h := h.near (w' := w.drew)
 refine ⟨?_, ?_⟩
 ·refine call24 (spec24 h fun q w h => ?_)
  refine ⟨LdAtN h, LdAtN h, ?_, ?_⟩
  ·refine call34 (b1 := (.empty, false)) (spec34 h fun w h => ?_)
   refine ⟨LdAtN h, ?_, ?_⟩
   ·refine call34 (b1 := (.empty, false)) (spec34 h fun w h => ?_)
    refine ⟨?_, ?_⟩
    ·refine NewP_run h fun bf w h => ?_
     refine call35 (levels1 := levels) (spec35 (D := fun _ => none) (by intro w h; exact hrd w (Sat.drop 6 h)) om hss (SatU.nil rfl h) fun D S it w hD hS hit h => ?_)
     exact finUser lg hS hit ((((((((((h.mv 8).mv 3).mv 3).mv 3).mv 4).mv 5).mv 6).mv 8).mv 8)).tail2 k
    ·refine call35 (levels1 := levels) (spec35 (D := fun _ => none) (by intro w h; exact hrd w (Sat.drop 5 h)) om hss (SatU.nil rfl h) fun D S it w hD hS hit h => ?_)
     refine NewP_run h fun bf w h => ?_
     exact finUser lg hS hit ((((((((((h.mv 8).mv 4).mv 4).mv 4).mv 4).mv 5).mv 6).mv 8).mv 8)).tail2 k
   ·refine NewP_run h fun bf w h => ?_
    refine ⟨LdAtN h, ?_⟩
    refine call34 (b1 := (.empty, false)) (spec34 h fun w h => ?_)
    refine call35 (levels1 := levels) (spec35 (D := fun _ => none) (by intro w h; exact hrd w (Sat.drop 6 h)) om hss (SatU.nil rfl h) fun D S it w hD hS hit h => ?_)
    exact finUser lg hS hit ((((((((((h.mv 8).mv 3).mv 3).mv 3).mv 4).mv 5).mv 6).mv 8).mv 8)).tail2 k
  ·refine NewP_run h fun bf w h => ?_
   refine ⟨LdAtN h, LdAtN h, ?_⟩
   refine call34 (b1 := (.empty, false)) (spec34 h fun w h => ?_)
   refine ⟨LdAtN h, ?_⟩
   refine call34 (b1 := (.empty, false)) (spec34 h fun w h => ?_)
   refine call35 (levels1 := levels) (spec35 (D := fun _ => none) (by intro w h; exact hrd w (Sat.drop 6 h)) om hss (SatU.nil rfl h) fun D S it w hD hS hit h => ?_)
   exact finUser lg hS hit ((((((((((h.mv 8).mv 3).mv 3).mv 3).mv 4).mv 5).mv 6).mv 8).mv 8)).tail2 k
 ·refine NewP_run h fun bf w h => ?_
  refine ⟨LdAtN h, LdAtN h, ?_⟩
  refine call24 (spec24 h fun q w h => ?_)
  refine ⟨LdAtN h, LdAtN h, ?_⟩
  refine call34 (b1 := (.empty, false)) (spec34 h fun w h => ?_)
  refine ⟨LdAtN h, ?_⟩
  refine call34 (b1 := (.empty, false)) (spec34 h fun w h => ?_)
  refine call35 (levels1 := levels) (spec35 (D := fun _ => none) (by intro w h; exact hrd w (Sat.drop 6 h)) om hss (SatU.nil rfl h) fun D S it w hD hS hit h => ?_)
  exact finUser lg hS hit ((((((((((h.mv 8).mv 3).mv 3).mv 3).mv 5).mv 5).mv 6).mv 8).mv 8)).tail2 k
theorem PSp.rd {out : Sl} {ps : List PlM} {L w} (h : Sat w (PSp out ps :: L)) : PSpansRd w out (fun j => (ps.getD j pld).kx) (ps.map PlM.sp) := by
 obtain ⟨h1, h2, h3⟩ := pspOpen h
 refine ⟨by rw [List.length_map]; exact h1, fun j hj => ?_⟩
 rw [List.length_map] at hj
 have hx : ps[j]? = some ps[j] := List.getElem?_eq_getElem hj
 have hg : ps.getD j pld = ps[j] := by rw [List.getD_eq_getElem?_getD, hx]; rfl
 rw [List.getElem_map]
 dsimp only
 have hkn := h2 _ (List.getElem_mem hj)
 have h4 := (h3.mv 1).fam_out hj
 unfold plF at h4
 rw [hg] at h4 |-
 generalize ps[j] = x at hx hkn h4
 obtain ⟨a, ha, hr⟩ := rowBuf (f := plc) (k := 3) (fun _ => rfl) (by decide) h3 .here hx
 refine ⟨a, ha, hr, hkn, fun i hi => ?_⟩
 have hm : x.keys[i]? = some x.keys[i] := List.getElem?_eq_getElem hi
 exact rowBuf (f := pkc) (k := 3) (fun _ => rfl) (by decide) h4 .here hm
theorem spec37 {p : Addr} {x : SpC} {s : SpanM} {key : Sl} {kb : ByteArray} {D L R R' w} {K : Bool -> WP} (hx : SpRel D x s) (hk : RdB w key.a key.n kb) (h : Sat w L) (t : Take L (Own D) R) (t2 : Take L (Arr p (spc x)) R') (k : ∀ b, b = decide (bcmp s.lo kb <= 0 /\ bcmp kb s.hi < 0) -> K b w) : F37 (some p) (.mk (.func 45) #[] #[]) key K w := by
 unfold F37
 have hr := h.rdL t2
 refine ⟨_, rfl, LdC (v := .slice x.lo.a x.lo.n x.lo.c) (hr 0 _ rfl) ?_⟩
 refine callCmp (h.rdB t hx.1.1) hk (ifd (fun h1 => ?_) (fun h1 => k _ (decide_eq_false (fun h9 => h1 h9.1)).symm))
 refine ⟨_, rfl, LdC (v := .slice x.hi.a x.hi.n x.hi.c) (hr 1 _ rfl) (callCmp hk (h.rdB t hx.2.1.1) (k _ ?_))⟩
 rw [Bool.eq_iff_iff, decide_eq_true_eq, decide_eq_true_eq]
 exact ⟨fun h => ⟨h1, h⟩, fun h => h.2⟩
theorem spec14 {s : SpanM} {y : Sl} {kb : ByteArray} {R w} {K : Bool -> WP} (hrd : ∀ w, Sat w R -> PKeysRd w y s.keys) (hlen : s.keys.length < 2^32) (h : Sat w R) (k : ∀ b w', b = decide (bcmp s.lo kb <= 0 /\ bcmp kb s.hi < 0) -> Sat w' R -> K b w') : F14 (s.lo, s.hi, y) kb K w := by
 unfold F14
 refine NewP_run h fun n3 w h => LdN h ?_
 have h0 : Sat w (Own (fun _ => none) :: Arr n3 [.string s.lo, .string s.hi, .slice y.a y.n y.c] :: R) := SatU.nil rfl h
 refine call36 (s1 := (s.lo, s.hi, y)) (spec36 (s := s) (R := Arr n3 [.string s.lo, .string s.hi, .slice y.a y.n y.c] :: R) (fun w h => hrd w h.tail) hlen h0 fun D x w _ hx h => ?_)
 refine NewP_run h fun n6 w h => StL_of (St1 h rfl fun w h => St1 h rfl fun w h => St1 h rfl fun w h => St1 h rfl fun w h => ?_)
 simp only [StC]
 refine call24 (spec24 h fun q w h => ?_)
 have hq := h
 unfold cmpCs at hq
 refine ⟨_, rfl, Ld1 hq ?_⟩
 clear hq
 refine BytesP_run h fun p c w hc h => ?_
 have hkey : RdB w (some p) kb.size kb := ⟨rfl, (h.rdL .here).left⟩
 exact call37 (spec37 (key := ⟨some p, kb.size, c⟩) hx hkey h .k3 .k2 fun b hb => k b w hb (Sat.drop 5 h))
theorem spec11 {R w} {K : Bool -> WP} (h : Sat w R) (k : ∀ w', Sat w' R -> K true w') : F11 K w := by
 unfold F11
 refine NewS_run h fun p w h => ?_
 have hops : OpsIn (Arr p [.int .u8 (1 : Int), .string ⟨#[97]⟩, .string ⟨#[118]⟩, .string .empty, .string .empty, .int .u32 (0 : Int)] :: R) ⟨some p, 1, 1⟩ [⟨1, ⟨#[97]⟩, ⟨#[118]⟩, .empty, .empty, 0⟩] := by
  refine ⟨rfl, fun w h j o e => ⟨p, rfl, ?_⟩⟩
  cases j with
  | zero =>
   simp only [List.getElem?_cons_zero, Option.some.injEq] at e
   subst e
   exact h.rdL .here
  | succ j => simp at e
 refine call9 (ops1 := ⟨some p, 1, 1⟩) (spec9 (fun o ho => ?_) (by decide) (by simp) hops h fun pts dl rg ps w hn _ h => ?_)
 ·rw [List.mem_singleton.1 ho]
  exact ⟨.inr (.inl rfl), by decide, by decide, by decide, by decide, by decide⟩
 ·refine ifb (fun _ => ?_) (fun hh => nomatch hh)
  have : pts.n = 1 := hn
  rw [this]
  exact k w h.tail.tail
theorem RngOK.lg {l : List OpM} {ss : List SpanM} (hl : ∀ o ∈ l, OpOK o) (hn : l.length <= 512) (h : RngOK l ss) : LG [ss] := by
 have hk := h.key
 refine ⟨show 1 <= 10 by decide, fun s hs => ?_, fun s hs => ?_, fun s hs x hx => ?_, fun s hs x hx m hm => ?_, fun s hs x hx m hm => ?_, fun y => ?_⟩
 ·rw [List.mem_singleton.1 hs]; exact h.ok
 ·rw [List.mem_singleton.1 hs]; exact h.n
 ·rw [List.mem_singleton.1 hs] at hx
  rw [(hk x hx).length_eq, List.length_map]
  have := entIn_len x.lo l
  omega
 ·rw [List.mem_singleton.1 hs] at hx
  have := (eKey_props hl hn m ((hk x hx).mem_iff.1 hm)).1
  omega
 ·rw [List.mem_singleton.1 hs] at hx
  exact (eKey_props hl hn m ((hk x hx).mem_iff.1 hm)).2
 ·have e : keysL [ss] y = keysOf ss y := by unfold keysL keysOf; rw [List.flatMap_cons, List.flatMap_nil, List.append_nil]; rfl
  rw [e]
  exact ((h.at y).map _).nodup_iff.2 ((List.pairwise_map.1 (List.pairwise_map.2 ((entIn_tr hl).imp fun h => Int.ne_of_lt h))) |> fun h => List.pairwise_map.2 h)
theorem keysL1 (ss : List SpanM) (y : ByteArray) : keysL [ss] y = keysOf ss y := by unfold keysL keysOf; rw [List.flatMap_cons, List.flatMap_nil, List.append_nil]; rfl
def gotOf (okk : Bool) (lo hi kb : ByteArray) (ks : List KeyM) : List SV := if okk = true /\ bcmp lo kb <= 0 /\ bcmp kb hi < 0 then ks.map svOf else []
theorem AnsL.got {ls : List (List SpanM)} {sn : Int} {kb lo hi : ByteArray} {okk : Bool} {ks : List KeyM} (h : AnsL ls sn kb okk lo hi ks) : IsC sn (keysL ls kb) (gotOf okk lo hi kb ks) := by
 unfold gotOf
 rcases h with ⟨rfl, rfl, h⟩ | ⟨rfl, ⟨h1, h2, h3⟩ | ⟨h1, h2⟩⟩
 ·rw [if_neg (by simp), h]; exact IsC.nil
 ·rw [if_pos ⟨rfl, h1, h2⟩]; exact h3
 ·have := bcmp_anti lo kb
  rw [if_neg om, h2]; exact IsC.nil
theorem pkeysRd {kx : Sl} {ks : List KeyM} {L R w} (hn : kx.n = ks.length) (h : Sat w L) (t : Take L (Buf 3 kx (ks.flatMap pkc)) R) : PKeysRd w kx ks :=
 ⟨hn, fun j hj => rowBuf (f := pkc) (k := 3) (fun _ => rfl) (by decide) h t (List.getElem?_eq_getElem hj)⟩
theorem OpMost.ok {o : OpM} (h : OpMost o) (hr : OpRng o) (hs : o.size < 2^32) : OpOK o := by
 refine ⟨?_, h.key, h.val, h.end_, h.suf, hs⟩
 have h1 := h.kind
 have h2 := hr.2
 unfold AllKind at h1
 unfold OpKind
 omega
theorem ifne' {a b : Int} {A B : Prop} (e : a = b) (y : B) : if (a != b) = true then A else B := by rw [if_neg (by simpa using e)]; exact y
end Go.Proofs.YtpkoddfamelnhaaGreatDoor
