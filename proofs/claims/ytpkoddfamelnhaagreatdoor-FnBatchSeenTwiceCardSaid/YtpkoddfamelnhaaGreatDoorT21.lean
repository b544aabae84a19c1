/- Part 21 of the proof of fnBatchSeenTwice_card. Conditions: none. -/
import Derived.Test.YtpkoddfamelnhaaGreatDoorT20
set_option linter.unusedVariables false
set_option linter.unusedSimpArgs false
namespace Go.Proofs.YtpkoddfamelnhaaGreatDoor
open Go Go.Tr
set_option maxRecDepth 100000
def SeekPos (c : MC) (key : ByteArray) (l : Nat) (q : Int) : Prop := 0 <= q /\ q <= 2 * (c.S l).n /\ (∀ p : Nat, (p : Int) < q -> bcmp (bkey (c.S l).spans p) key <= 0) /\
 (∀ p : Nat, q <= p -> p < 2 * (c.S l).n -> bcmp key (bkey (c.S l).spans p) <= 0) /\ ∀ p : Nat, q <= p -> p < 2 * (c.S l).n -> p % 2 = 1 -> bcmp key (bkey (c.S l).spans p) < 0
theorem seek0 {c : MC} {key : ByteArray} {l : Nat} (lo : SpansOK (c.S l).spans) (hn : (c.S l).spans.length = (c.S l).n) {j : Nat} (hj : j <= (c.S l).n) (h1 : ∀ (a : Nat) (x : SpanM), a < j -> (c.S l).spans[a]? = some x -> bcmp x.hi key <= 0)
  (h2 : ∀ x : SpanM, (c.S l).spans[j]? = some x -> bcmp key x.lo <= 0) : SeekPos c key l (2 * (j : Int)) := by
 have up : ∀ p : Nat, (2 * j : Int) <= p -> p < 2 * (c.S l).n -> bcmp key (bkey (c.S l).spans (2 * j)) <= 0 := fun p hp hq => by
  have hs := List.getElem?_eq_getElem (show j < (c.S l).spans.length by omega)
  rw [bkey_lo hs]; exact h2 _ hs
 refine ⟨by omega, by omega, fun p hp => ?_, fun p hp hq => bcmp_trans (up p hp hq) (bkey_mono lo om om), fun p hp hq ho => ?_⟩
 ·have hs := List.getElem?_eq_getElem (show p / 2 < (c.S l).spans.length by omega)
  have h3 := h1 (p / 2) _ om hs
  refine bcmp_trans (bkey_mono lo (q := 2 * (p / 2) + 1) om om) ?_
  rw [bkey_hi hs]; exact h3
 ·have hs := List.getElem?_eq_getElem (show p / 2 < (c.S l).spans.length by omega)
  have h3 := lo.ne _ _ hs
  have e1 := bkey_lo hs
  have e2 := bkey_hi hs
  have e3 : p = 2 * (p / 2) + 1 := by omega
  have h4 := bcmp_trans (up p hp hq) (bkey_mono lo (p := 2 * j) (q := 2 * (p / 2)) om om)
  rw [e1] at h4
  rw [e3, e2]
  exact bcmp_le_lt h4 h3
theorem seek1 {c : MC} {key : ByteArray} {l : Nat} (lo : SpansOK (c.S l).spans) (hn : (c.S l).spans.length = (c.S l).n) {j : Nat} {s : SpanM} (hs : (c.S l).spans[j]? = some s) (h1 : bcmp s.lo key <= 0) (h2 : bcmp key s.hi < 0) : SeekPos c key l (2 * (j : Int) + 1) := by
 have hj := (List.getElem?_eq_some_iff.1 hs).1
 refine ⟨by omega, by omega, fun p hp => ?_, fun p hp hq => ?_, fun p hp hq ho => ?_⟩
 ·refine bcmp_trans (bkey_mono lo (q := 2 * j) om om) ?_
  rw [bkey_lo hs]; exact h1
 ·refine bcmp_trans (lt_le_b h2) ?_
  rw [<- bkey_hi hs]; exact bkey_mono lo om om
 ·refine bcmp_lt_le h2 ?_
  rw [<- bkey_hi hs]; exact bkey_mono lo om om
theorem spec205 {c : MC} {s : MSt} {v : UC} {u : UV} {kb : ByteArray} {key : Sl} {R R'} {kc : Chunk} {w} {K : Option Addr -> WP} (cx : CtxOK c v) (hkn : KN s) (t : Take R kc R') (hkey : ∀ w L, Sat w (kc :: L) -> RdB w key.a key.n kb) (h : Sat w (MSU c s v u R))
  (k0 : ∀ s' u' w', s'.N = 0 -> (∀ y, bcmp kb y <= 0 -> ¬ covd c y) -> Sat w' (MSU c s' v u' R) -> K none w')
  (k1 : ∀ s' a b sets u' w', Fwd c s' -> Cut c s'.pos a b -> Frag c v.sn s' a b sets -> bcmp kb b < 0 -> (∀ y, bcmp kb y <= 0 -> bcmp y a < 0 -> ¬ covd c y) -> Sat w' (MSU c s' v u' R) -> K (some (c.m.add 4)) w') : F205 (some c.m) key K w := by
 have ok := cx.ok
 have lo := cx.lo
 have k10 := ok.k10
 unfold F205
 refine call210 (spec210 h fun w h => ?_)
 have h' := h
 unfold MSL hp MSR at h
 refine ⟨_, rfl, Ld1 h ⟨_, rfl, Ld1 h ?_⟩⟩
 refine ⟨fun m (i : Int) w => ∃ (j : Nat) (pos : Nat -> Int), i = j /\ j <= c.k /\ m = c.k - j /\ (∀ l, l < j -> SeekPos c kb l (pos l + 1)) /\ Sat w (MSU c { s with pos := pos } v u R), ⟨_, 0, s.pos, rfl, by omega, rfl, by omega, h'⟩, ?_⟩
 clear h h'
 rintro m i w ⟨j, pos, rfl, hj, hm, hsp, h⟩
 have h' := h
 unfold MSU MSL hp MSR at h
 refine ifd (fun hlt => ?_) (fun hge => ?_)
 ·have hjk : j < c.k := by dsimp only at hlt; omega
  have hn := (ok.S j hjk).len
  have hsm := (ok.S j hjk).small
  have ew : IntKind.i64.wrap ((j : Int) + 1) = ((j + 1 : Nat) : Int) := w1 om
  rw [ew, Int.toNat_natCast]
  refine ⟨_, rfl, Ld1 h ⟨_, rfl, Ld1 h ⟨⟨by omega, hlt⟩, _, rfl, _, rfl, ?_⟩⟩⟩
  obtain ⟨xo, hxo, h1⟩ := levOpen (levTake hjk h')
  replace h1 : Sat w (Arr ((c.m.add 10).add (j * 4)) _ :: _) := h1
  unfold MSR at h1
  have hso : ∀ (a b : Nat) (x y : SpanM), a < b -> (c.S j).spans[a]? = some x -> (c.S j).spans[b]? = some y -> 0 < bcmp kb y.lo -> 0 < bcmp kb x.lo := fun a b x y hab hx hy h0 => by
   have g1 := (lo j hjk).so _ _ _ _ hab hx hy
   have g2 := (lo j hjk).ne _ _ hx
   have g3 := bcmp_anti kb y.lo
   have g4 := bcmp_anti kb x.lo
   have := bcmp_lt_le g2 (bcmp_trans g1 (show bcmp y.lo kb <= 0 by omega))
   omega
  refine Ld1 h1 ?_
  refine CallI_run m223SeekLT (call277 (key2 := key) ?_)
  refine spec277 (kb := kb) (D := c.D) (spans := (c.S j).spans) h1 .k1 .k1
   (fun w x h => hkey w _ (h.take (.there (.there (.there (.there (.there (.there (.there (.there (.there (.there (.there (.there (.there (.there (.there (.there t))))))))))))))))))
   (ok.S j hjk).at_ hn om hso fun q w hq hlo' hhi' h => ?_
  have put : ∀ w (p : Int), SeekPos c kb j (p + 1) -> Sat w (levC c.D (c.q j) (c.S j) p :: Own c.D :: Fam c.k (upd (mlev c pos) j emp) :: _) -> ∃ m', m' < m /\ ∃ (j' : Nat) (pos : Nat -> Int), (((j + 1 : Nat) : Int)) = j' /\ j' <= c.k /\ m' = c.k - j' /\ (∀ l, l < j' -> SeekPos c kb l (pos l + 1)) /\ Sat w (MSU c { s with pos := pos } v u R) := fun w p hp h =>
   ⟨c.k - (j + 1), by omega, j + 1, upd pos j p, rfl, by omega, rfl, fun l hl => by
    by_cases e : l = j
    ·subst e; rw [upd_same]; exact hp
    ·rw [upd_other e]; exact hsp l om, levPut hjk h⟩
  rcases Nat.eq_zero_or_pos q with rfl | hq0
  ·rw [cur_none om]
   refine ifNone ⟨_, rfl, StL_of (St1 h.t1 rfl fun w h => St1 h rfl fun w h => St1 h rfl fun w h => put w (-1) (by have hh := seek0 (j := 0) (key := kb) (lo j hjk) hn om (fun a x ha => by omega) (fun x hx => hhi' x hx); simpa using hh) (levShut (x := ⟨none, 0, 0⟩) (fun h0 => by omega) ?_))⟩
   have e1 : lkind (c.S j).n (-1) = 0 := by unfold lkind; rw [if_neg om]
   have e2 : lptr (c.S j) (-1) = none := by unfold lptr; rw [if_neg om]
   have e3 : lidx (c.S j).n (-1) = ((0 : Nat) : Int) - 1 := rfl
   rw [e1, e2, e3]
   exact h
  ·obtain ⟨q, rfl⟩ : ∃ q', q = q' + 1 := ⟨q - 1, by omega⟩
   have hql : q < (c.S j).spans.length := by omega
   have hs := List.getElem?_eq_getElem hql
   have hat := (ok.S j hjk).at_ _ _ hs
   obtain ⟨ys, hys, hys2⟩ := hat.1
   obtain ⟨ye, hye, hye2⟩ := hat.2.1
   have hlok : bcmp ((c.S j).spans[q]).lo kb <= 0 := by have := hlo' q _ om hs; have := bcmp_anti kb ((c.S j).spans[q]).lo; omega
   have eq1 : (((q + 1 : Nat) : Int) - 1) = q := by omega
   rw [eq1] at h |-
   rw [cur_some om om, Int.toNat_natCast]
   have hrk0 := hkey w.drew _ ((h.near (w' := w.drew)).take (.there (.there (.there (.there (.there (.there (.there (.there (.there (.there (.there (.there (.there (.there (.there (.there t)))))))))))))))))
   refine ifSome ⟨_, rfl, LdC (h.near.dat .k2 hye.1) ?_⟩
   refine call217 ?_
   unfold F217
   refine ⟨_, rfl, Ld1 h ⟨_, rfl, Ld1 h ?_⟩⟩
   refine callCmp (h.near.rdB .k2 hye2) hrk0 ?_
   refine ifd (fun hc => ?_) (fun hc => ?_)
   ·refine ⟨_, rfl, LdC (h.near.dat .k2 hye.1) ⟨_, rfl, StL_of (St1 h.t1 rfl fun w h => St1 h rfl fun w h => St1 h rfl fun w h => put w (2 * (q : Int) + 1) ?_ (levShut (x := ye) (fun _ _ => ⟨?_, hye.2⟩) ?_))⟩⟩
    ·have := seek0 (j := q + 1) (key := kb) (lo j hjk) hn om (fun a x ha hx => ?_) (fun x hx => ?_)
     ·rwa [show (2 * (((q + 1 : Nat)) : Int)) = 2 * (q : Int) + 1 + 1 by omega] at this
     ·by_cases e : a = q
      ·subst e; rw [hs] at hx; injection hx with hx; rw [<- hx]; exact hc
      ·have g1 := (lo j hjk).so _ _ _ _ (show a < q by omega) hx hs
       exact bcmp_trans g1 hlok
     ·have := hhi' x hx; omega
    ·rw [show (2 * (q : Int) + 1).toNat = 2 * q + 1 by omega, bkey_hi hs]; exact hye2
    ·have e1 : lkind (c.S j).n (2 * q + 1) = 2 := by unfold lkind; rw [if_pos om, if_neg om]
     have ep : lptr (c.S j) (2 * q + 1) = some ((c.S j).e.add (q * 4)) := by unfold lptr; rw [if_pos om, show ((2 * (q : Int) + 1) / 2).toNat = q by omega]
     have e3 : lidx (c.S j).n (2 * q + 1) = q := by unfold lidx; rw [if_neg om, if_neg om]; omega
     rw [e1, ep, e3]
     exact h
   ·refine ⟨_, rfl, LdC (h.near.dat .k2 hys.1) ⟨_, rfl, StL_of (St1 h.t1 rfl fun w h => St1 h rfl fun w h => St1 h rfl fun w h => put w (2 * (q : Int)) (seek1 (lo j hjk) hn hs hlok (not_le_b.1 hc)) (levShut (x := ys) (fun _ _ => ⟨?_, hys.2⟩) ?_))⟩⟩
    ·rw [show (2 * (q : Int)).toNat = 2 * q by omega, bkey_lo hs]; exact hys2
    ·have e1 : lkind (c.S j).n (2 * q) = 1 := by unfold lkind; rw [if_pos om, if_pos om]
     have ep : lptr (c.S j) (2 * q) = some ((c.S j).e.add (q * 4)) := by unfold lptr; rw [if_pos om, show (2 * (q : Int) / 2).toNat = q by omega]
     have e3 : lidx (c.S j).n (2 * q) = q := by unfold lidx; rw [if_neg om, if_neg om]; omega
     rw [e1, ep, e3]
     exact h
 ·have : j = c.k := by dsimp only at hge; omega
  subst this
  have hposok : PosOk c pos := fun l hl => by have := hsp l hl; exact ⟨by have := this.1; omega, by have := this.2.1; omega⟩
  refine call213 (spec213 (s := { s with pos := pos }) ok h' fun N f w hN hh h => ?_)
  dsimp only at hh
  have h' : Sat w (MSU c { s with N := N, f := f, dir := -1, rev := true, pos := pos } v u R) := h
  clear h
  have h := h'
  unfold MSU MSL hp MSR at h
  refine ⟨_, rfl, Ld1 h ⟨IsI_enc _, ?_⟩⟩
  rw [isNilI_enc]
  refine ifn (fun hh => by cases hh) (fun _ => ?_)
  refine ⟨_, rfl, Ld1 h ⟨_, rfl, Ld1 h ?_⟩⟩
  have sw : ∀ (pos2 : Nat -> Int), (∀ l, l < c.k -> pos2 l = nxtp (c.S l).n (pos l)) -> ∀ l, l < c.k -> pos2 l = pos l + 1 /\ SeekPos c kb l (pos2 l) := fun pos2 h2 l hl => by
   have g := hsp l hl
   have e : pos2 l = pos l + 1 := by rw [h2 l hl]; unfold nxtp; rw [if_pos (by have := g.2.1; omega)]
   exact ⟨e, by rw [e]; exact g⟩
  have cut2 : ∀ {pos2 : Nat -> Int}, (∀ l, l < c.k -> pos2 l = nxtp (c.S l).n (pos l)) -> Cut c pos2 kb kb := fun h2 l hl => by
   obtain ⟨_, g0, g1, g2, g3, _⟩ := sw _ h2 l hl
   exact ⟨g0, g1, g2, g3⟩
  refine ife (fun hz => ?_) (fun hnz => ?_)
  ·dsimp only at hz
   refine call215 (spec215 (s := { s with N := N, f := f, dir := -1, rev := true, pos := pos }) ok hposok h' fun pos2 N2 f2 w hp2 hN2 hh2 h => ?_)
   dsimp only at hp2
   have hq2 := sw _ hp2
   have hc2 := cut2 hp2
   have hneg : ∀ l, l < c.k -> pos2 l = 0 := fun l hl => by
    obtain ⟨e, g0, g1, _⟩ := hq2 l hl
    by_cases e2 : 0 <= pos l
    ·obtain ⟨i, hi, _⟩ := hh.all l (show mval c pos l from ⟨hl, e2, by omega⟩); omega
    ·omega
   refine call212 (spec212 (s := { s with N := N2, f := f2, dir := 1, rev := false, pos := pos2 }) cx ⟨rfl, rfl, hN2, hh2, hkn⟩ hc2 ?_ h k0 fun s' a b sets u' w f1 f2 f3 f4 f5 h => k1 s' a b sets u' w f1 f2 f3 (bcmp_le_lt f4 f3.lt) f5 h)
   rintro y hy hb ⟨l, hl, hcv⟩
   refine hcv ?_
   have hn := (ok.S l hl).len
   have e0 := hneg l hl
   rw [straddle (lo l hl) (q := 0) (Int.le_refl _) om (fun p hp => by omega) (fun p hp hq => hb l hl p (by dsimp only; omega) om), if_neg om]
  dsimp only at hnz
  have hN0 : 0 < N := by omega
  have hv := hh.ok 0 hN0
  obtain ⟨r1, _, rk, xk, hxk, rx⟩ := rootRead (h'.near (w' := w.drew)) (by dsimp only; omega) hN0 hv
  refine ⟨_, rfl, Ld1 h ⟨_, rfl, Ld1 h ⟨⟨by omega, by dsimp only; omega⟩, _, rfl, LdC r1 ⟨_, rfl, LdC rx ⟨_, rfl, St1 h rfl fun w h => ?_⟩⟩⟩⟩⟩
  clear r1 rk rx
  have hmax := rootMax lo ok hh (fun l hl => (hsp l hl).2.1)
  have hr0k : bcmp (mkey c pos (f 0)) kb <= 0 := (hsp _ hv.1).2.2.1 _ (by have := hv.2; omega)
  have hb0 : IsB c (mkey c pos (f 0)) := mval_isB hv
  have hmk : lkind (c.S (f 0)).n (pos (f 0)) = 2 -> 0 < (mkey c pos (f 0)).size := fun hk => by
   unfold lkind at hk
   rw [if_pos hv.2] at hk
   split at hk
   ·omega
   ·have hj : (pos (f 0) / 2).toNat < (c.S (f 0)).spans.length := by rw [(ok.S _ hv.1).len]; have := hv.2; omega
    have hs := List.getElem?_eq_getElem hj
    have e : mkey c pos (f 0) = ((c.S (f 0)).spans[(pos (f 0) / 2).toNat]).hi := by
     unfold mkey
     rw [show (pos (f 0)).toNat = 2 * (pos (f 0) / 2).toNat + 1 by have := hv.2; omega]
     exact bkey_hi hs
    rw [e]
    exact size_pos ((lo _ hv.1).ne _ _ hs)
  have hmz : (mkey c pos (f 0)).size < 2^40 := bkey_sz (lo _ hv.1) _
  dsimp only at hxk
  refine ⟨fun _ w => ∃ st bf' bb', st.a.isSome = true /\ (BytesAt c.D st (mkey c pos (f 0)) \/ (st = bf' /\ (mkey c pos (f 0)) = bb')) /\ Sat w (MSU c { s with N := N, f := f, dir := -1, rev := true, pos := pos, start := st, buf := bf', bb := bb' } v u R), ?_, ?_⟩
  rotate_left
  ·have h' : Sat w (MSL c { s with N := N, f := f, dir := -1, rev := true, pos := pos, start := xk } (UIL v.ui v.bf v.cq v.sn u.fnv u.Ks u.kn u.cs R)) := h
   obtain ⟨r1, _, rk, _⟩ := rootRead h' (by dsimp only; omega) hN0 hv
   refine ⟨_, rfl, Ld1 h ⟨_, rfl, Ld1 h ⟨⟨by omega, by dsimp only; omega⟩, _, rfl, LdC r1 ⟨_, rfl, LdC rk ?_⟩⟩⟩⟩
   refine ife (fun he => ?_) (fun hne => ⟨xk, s.buf, s.bb, hxk.2, .inl hxk.1, h'⟩)
   refine ⟨_, rfl, Ld1 h ⟨_, rfl, Ld1 h ⟨_, rfl, Ld1 h ⟨⟨by omega, by dsimp only; omega⟩, _, rfl, Ld1 h ?_⟩⟩⟩⟩
   have hrd := (h.near (w' := w.drew)).rdB .k3 hxk.1
   have hn : (mkey c pos (f 0)).size = xk.n := by
    obtain ⟨a, n, cc⟩ := xk
    cases a with
    | none => have := hxk.2; cases this
    | some a => exact hrd.1
   have h2 := bufTrunc h.t8
   refine AppP_run (s := si87) (old := []) (d := ⟨s.buf.a, 0, s.buf.c⟩) (x := ⟨xk.a, xk.n, xk.c⟩) (new := bytesOf (mkey c pos (f 0))) h2 hrd.rdS (by rw [bytesOf_length, hn]; exact (Nat.mul_one _).symm) (bytes_one _) (by show (2 * (0 + xk.n) + 1024) * 1 <= _; omega) (by dsimp only; omega) fun bf' w er ea h => ?_
   dsimp only at er ea
   refine ⟨LdAt1 h, _, rfl, St1 h rfl fun w h => ⟨_, rfl, Ld1 h ⟨_, rfl, Ld1 h ⟨_, rfl, St1 h rfl fun w h => ⟨bf', bf', _, ea (by have := hmk he; omega), .inr ⟨rfl, rfl⟩, ?_⟩⟩⟩⟩⟩
   exact (((((((((h.mv 0).mv 8).mv 8).mv 8).mv 8).mv 8).mv 8).mv 8).mv 8)
  clear h
  rintro _ w ⟨st, bf', bb', hss, hst, h⟩
  refine call215 (spec215 (s := { s with N := N, f := f, dir := -1, rev := true, pos := pos, start := st, buf := bf', bb := bb' }) ok hposok h fun pos2 N2 f2 w hp2 hN2 hh2 h => ?_)
  dsimp only at hp2
  have hq2 := sw _ hp2
  have hc2 := cut2 hp2
  have h' : Sat w (MSU c { s with N := N2, f := f2, dir := 1, rev := false, pos := pos2, start := st, buf := bf', bb := bb' } v u R) := h
  clear h
  have h := h'
  unfold MSU MSL hp MSR at h
  refine ⟨_, rfl, Ld1 h ⟨IsI_enc _, ?_⟩⟩
  rw [isNilI_enc]
  refine ifn (fun hh => by cases hh) (fun _ => ?_)
  refine ⟨_, rfl, Ld1 h ⟨_, rfl, Ld1 h ?_⟩⟩
  have hrm := rootMin lo ok hh2 (fun l hl => (hc2 l hl).1)
  refine ife (fun hz => ?_) (fun hnz => ?_)
  ·dsimp only at hz
   refine k0 _ u _ (by dsimp only; omega) ?_ h'.near
   rintro y hy ⟨l, hl, hcv⟩
   refine hcv ?_
   have hn := (ok.S l hl).len
   obtain ⟨g0, g1, g2, g3⟩ := hc2 l hl
   have e2 : pos2 l = 2 * (c.S l).n := by
    by_cases e3 : pos2 l < 2 * (c.S l).n
    ·have := (hrm l hl (pos2 l).toNat om om).1; omega
    ·omega
   rw [straddle (lo l hl) g0 om (fun p hp => bcmp_trans (g2 p hp) hy) (fun p hp hq => by omega), if_neg om]
  dsimp only at hnz
  have hN20 : 0 < N2 := by omega
  have hv2 := hh2.ok 0 hN20
  have hkr : bcmp kb (mkey c pos2 (f2 0)) <= 0 := (hc2 _ hv2.1).2.2.2 _ (by have := hv2.2; omega) (by have := hv2.2; omega)
  have hb2 : IsB c (mkey c pos2 (f2 0)) := mval_isB hv2
  have hfw : Fwd c { s with N := N2, f := f2, dir := 1, rev := false, pos := pos2, start := st, buf := bf', bb := bb' } := ⟨rfl, rfl, hN2, hh2, hkn⟩
  refine ⟨fun _ w => bcmp kb (mkey c pos2 (f2 0)) < 0 /\ Sat w (MSU c { s with N := N2, f := f2, dir := 1, rev := false, pos := pos2, start := st, buf := bf', bb := bb' } v u R), ?_, ?_⟩
  rotate_left
  ·obtain ⟨r1, _, rk, xe, hxe, rx⟩ := rootRead (h'.near (w' := w.drew)) (by dsimp only; omega) hN20 hv2
   refine ⟨_, rfl, Ld1 h ⟨_, rfl, Ld1 h ⟨⟨by omega, by dsimp only; omega⟩, _, rfl, LdC r1 ⟨_, rfl, LdC rk ?_⟩⟩⟩⟩
   refine ife (fun he => ?_) (fun hne => ⟨?_, h'.near⟩)
   ·refine ⟨_, rfl, Ld1 h ⟨_, rfl, Ld1 h ⟨⟨by omega, by dsimp only; omega⟩, _, rfl, LdC r1 ⟨_, rfl, LdC rx ?_⟩⟩⟩⟩
    refine call217 (spec217 h'.near (h.near.rdB .k3 hxe.1) (hkey _ _ (h.near.take (.there (.there (.there (.there (.there (.there (.there (.there (.there (.there (.there (.there (.there (.there t)))))))))))))))) ?_)
    refine ife (fun he2 => ?_) (fun hne2 => ⟨bcmp_ne hkr hne2, h'.near⟩)
    refine call212 (spec212 (u := u) cx hfw hc2 ?_ h'.near k0 fun s' a b sets u' w f1 f2 f3 f4 f5 h => k1 s' a b sets u' w f1 f2 f3 (bcmp_le_lt f4 f3.lt) f5 h)
    intro y hy hb
    have := hb _ hv2.1 (pos2 (f2 0)).toNat (by have := hv2.2; dsimp only; omega) (by have := hv2.2; omega)
    have e := bcmp_zero he2
    unfold mkey at e
    rw [e] at this
    exact absurd this (not_lt_b.2 hy)
   ·have hodd : (pos2 (f2 0)).toNat % 2 = 1 := by
     unfold lkind at hne
     rw [if_pos hv2.2] at hne
     have := hv2.2
     by_cases e : pos2 (f2 0) % 2 = 0
     ·rw [if_pos e] at hne; exact (hne rfl).elim
     ·omega
    exact (hq2 _ hv2.1).2.2.2.2.2 _ (by have := hv2.2; omega) (by have := hv2.2; omega) hodd
  clear h h'
  rintro _ w ⟨hkb, h⟩
  have h' := h
  obtain ⟨r1, _, _, xe, hxe, rx⟩ := rootRead h' (by dsimp only; omega) hN20 hv2
  unfold MSU MSL hp MSR at h
  refine ⟨_, rfl, Ld1 h ⟨_, rfl, Ld1 h ⟨⟨by omega, by dsimp only; omega⟩, _, rfl, LdC r1 ⟨_, rfl, LdC rx ⟨_, rfl, St1 h rfl fun w h => ?_⟩⟩⟩⟩⟩
  clear r1 rx h'
  dsimp only at hxe
  have hrb : bcmp (mkey c pos (f 0)) (mkey c pos2 (f2 0)) < 0 := bcmp_le_lt hr0k hkb
  have hc3 : Cut c pos2 (mkey c pos (f 0)) (mkey c pos2 (f2 0)) := fun l hl => by
   obtain ⟨g0, g1, g2, g3⟩ := hc2 l hl
   have e := (hq2 l hl).1
   exact ⟨g0, g1, fun p hp => (hmax l hl p om).2, fun p hp hq => (hrm l hl p hp hq).2⟩
  refine call218 (spec218 (s := { s with N := N2, f := f2, dir := 1, rev := false, pos := pos2, start := st, buf := bf', bb := bb', end_ := xe }) ok (.inl rfl) cx.kg cx.eq cx.tv h fun fd sets K' Ks' kn' cs' w hfd hvis hk1 hk2 h => ?_)
  dsimp only at hfd hvis
  have hgr0 := gath_fwd lo ok hc3 (le_refl_b _) hrb
  have nxt : fd = false -> CallF Tryz.prog 212 [.pointer (some c.m)] [(.one .ptr)] (fun (r : Option Addr) w => K r w) w := fun e => by
   refine call212 (spec212 (s := { s with N := N2, f := f2, dir := 1, rev := false, pos := pos2, start := st, buf := bf', bb := bb', end_ := xe, s0 := st, s1 := xe, s2 := ⟨K'.a, sets.length, K'.c⟩, s3 := 1, keys := K', kn := sets.length, kc := sets.flatMap kcells }) (u := ⟨cmpV, Ks', kn', cs'⟩) cx ⟨rfl, rfl, hN2, hh2, hk1, hk2⟩ hc2 ?_ h k0 fun s' a b sets u' w f1 f2 f3 f4 f5 h => k1 s' a b sets u' w f1 f2 f3 (bcmp_le_lt f4 f3.lt) f5 h)
   intro y hy hb hcv
   have hyb := hb _ hv2.1 (pos2 (f2 0)).toNat (by have := hv2.2; dsimp only; omega) (by have := hv2.2; omega)
   have hgy := gath_fwd lo ok hc3 (bcmp_trans hr0k hy) hyb
   have := hfd.2 (hgy.2.2 hcv)
   rw [e] at this; cases this
  refine ifb (fun e => ?_) (fun e => nxt e)
  refine ifNSome ?_
  dsimp only at e
  refine k1 { s with N := N2, f := f2, dir := 1, rev := false, pos := pos2, start := st, buf := bf', bb := bb', end_ := xe, s0 := st, s1 := xe, s2 := ⟨K'.a, sets.length, K'.c⟩, s3 := 1, keys := K', kn := sets.length, kc := sets.flatMap kcells } (mkey c pos (f 0)) (mkey c pos2 (f2 0)) sets ⟨cmpV, Ks', kn', cs'⟩ w ⟨rfl, rfl, hN2, hh2, hk1, hk2⟩ hc3 ⟨⟨hss, hst⟩, ⟨hxe.2, .inl hxe.1⟩, rfl, rfl, rfl, rfl, rfl, rfl, hrb, hb0, hb2, fun y h1 h2 => ?_, by rw [<- hgr0.1]; exact hvis⟩ hkb (fun y h1 h2 => absurd (bcmp_trans hr0k h1) (not_le_b.2 h2)) h
  have hgy := gath_fwd lo ok hc3 h1 h2
  exact ⟨hgy.2.1 (hfd.1 e), hgy.1.symm.trans hgr0.1⟩
def NextAt (c : MC) (s : MSt) (x : ByteArray) : Prop :=
 (Fwd c s /\ s.start.a.isSome = true /\ s.end_.a.isSome = true /\ Cut c s.pos x x /\ GapF c s.pos x) \/ (s.dir = -1 /\ KN s /\ Cut c (fun l => s.pos l + 1) x x /\ GapF c (fun l => s.pos l + 1) x)
def PrevAt (c : MC) (s : MSt) (x : ByteArray) : Prop :=
 (Bwd c s /\ s.start.a.isSome = true /\ s.end_.a.isSome = true /\ Cut c (fun l => s.pos l + 1) x x /\ GapB c (fun l => s.pos l + 1) x) \/ (s.dir = 1 /\ KN s /\ Cut c s.pos x x /\ GapB c s.pos x)
theorem spec203 {c : MC} {s : MSt} {v : UC} {u : UV} {x : ByteArray} {R w} {K : Option Addr -> WP} (cx : CtxOK c v) (hn : NextAt c s x) (h : Sat w (MSU c s v u R))
  (k0 : ∀ s' u' w', s'.N = 0 -> (∀ y, bcmp x y <= 0 -> ¬ covd c y) -> Sat w' (MSU c s' v u' R) -> K none w')
  (k1 : ∀ s' a b sets u' w', Fwd c s' -> Cut c s'.pos a b -> Frag c v.sn s' a b sets -> bcmp x a <= 0 -> (∀ y, bcmp x y <= 0 -> bcmp y a < 0 -> ¬ covd c y) -> Sat w' (MSU c s' v u' R) -> K (some (c.m.add 4)) w') : F203 (some c.m) K w := by
 unfold F203
 have h' := h
 unfold MSU MSL hp MSR at h
 refine ⟨_, rfl, Ld1 h ⟨IsI_enc _, ?_⟩⟩
 rw [isNilI_enc]
 refine ifn (fun hh => by cases hh) (fun _ => ?_)
 refine ⟨fun _ w => Sat w (MSU c s v u R), ?_, ?_⟩
 ·clear h h'
  intro _ w h
  have h' := h
  unfold MSU MSL hp MSR at h
  refine ⟨_, rfl, Ld1 h ?_⟩
  rcases hn with ⟨hf, _, _, hc, hg⟩ | ⟨hd, hkn, hc, hg⟩
  ·refine ifne (fun hh => absurd hf.dir hh) (fun _ => ?_)
   exact call212 (spec212 cx hf hc hg h' k0 k1)
  ·refine ifne (fun _ => ?_) (fun hh => by omega)
   have hcl : ∀ l, l < c.k -> 0 <= s.pos l + 1 /\ s.pos l + 1 <= 2 * ((c.S l).n : Int) := fun l hl => ⟨(hc l hl).1, (hc l hl).2.1⟩
   refine call215 (spec215 cx.ok (fun l hl => by have := hcl l hl; exact ⟨by omega, by omega⟩) h' fun pos2 N2 f2 w hp2 hN2 hh2 h => ?_)
   have e : ∀ l, l < c.k -> pos2 l = s.pos l + 1 := fun l hl => by
    rw [hp2 l hl]; unfold nxtp; rw [if_pos (by have := hcl l hl; omega)]
   refine call212 (spec212 (s := { s with N := N2, f := f2, dir := 1, rev := false, pos := pos2 }) (u := u) (x := x) cx ⟨rfl, rfl, hN2, hh2, hkn⟩ (fun l hl => ?_) (fun y hy hb => hg y hy fun l hl p hp hq => hb l hl p (by dsimp only at hp |-; rw [e l hl]; exact hp) hq) h k0 k1)
   dsimp only
   rw [e l hl]; exact hc l hl
 ·refine ⟨_, rfl, Ld1 h ?_⟩
  refine ife (fun hd => ?_) (fun _ => h')
  rcases hn with ⟨hf, h1, h2, _⟩ | ⟨hd', _⟩
  ·refine ⟨_, rfl, Ld1 h (ifbf (fun _ => ⟨_, rfl, Ld1 h (ifb (fun hh => ?_) fun _ => h')⟩) (fun hh => ?_))⟩
   ·dsimp only at hh; cases e : s.start.a <;> simp_all
   ·dsimp only at hh; cases e : s.end_.a <;> simp_all
  ·omega
theorem spec204 {c : MC} {s : MSt} {v : UC} {u : UV} {x : ByteArray} {R w} {K : Option Addr -> WP} (cx : CtxOK c v) (hn : PrevAt c s x) (h : Sat w (MSU c s v u R))
  (k0 : ∀ s' u' w', s'.N = 0 -> s'.dir = -1 -> KN s' -> (∀ l, l < c.k -> s'.pos l = -1) -> (∀ y, bcmp y x < 0 -> ¬ covd c y) -> Sat w' (MSU c s' v u' R) -> K none w')
  (k1 : ∀ s' a b sets u' w', Bwd c s' -> Cut c (fun l => s'.pos l + 1) a b -> Frag c v.sn s' a b sets -> bcmp b x <= 0 -> (∀ y, bcmp b y <= 0 -> bcmp y x < 0 -> ¬ covd c y) -> Sat w' (MSU c s' v u' R) -> K (some (c.m.add 4)) w') : F204 (some c.m) K w := by
 unfold F204
 have h' := h
 unfold MSU MSL hp MSR at h
 refine ⟨_, rfl, Ld1 h ⟨IsI_enc _, ?_⟩⟩
 rw [isNilI_enc]
 refine ifn (fun hh => by cases hh) (fun _ => ?_)
 refine ⟨fun _ w => Sat w (MSU c s v u R), ?_, ?_⟩
 ·clear h h'
  intro _ w h
  have h' := h
  unfold MSU MSL hp MSR at h
  refine ⟨_, rfl, Ld1 h ?_⟩
  rcases hn with ⟨hf, _, _, hc, hg⟩ | ⟨hd, hkn, hc, hg⟩
  ·refine ifne (fun hh => absurd hf.dir hh) (fun _ => ?_)
   exact call214 (spec214 cx hf hc hg h' k0 k1)
  ·refine ifne (fun _ => ?_) (fun hh => by omega)
   refine call216 (spec216 cx.ok (fun l hl => by obtain ⟨g0, g1, _⟩ := hc l hl; exact ⟨by omega, by omega⟩) h' fun pos2 N2 f2 w hp2 hN2 hh2 h => ?_)
   have e : ∀ l, l < c.k -> pos2 l + 1 = s.pos l := fun l hl => by
    rw [hp2 l hl]; unfold prvp; rw [if_neg (by obtain ⟨g0, g1, _⟩ := hc l hl; omega)]; omega
   refine call214 (spec214 (s := { s with N := N2, f := f2, dir := -1, rev := true, pos := pos2 }) (u := u) (x := x) cx ⟨rfl, rfl, hN2, hh2, hkn⟩ (fun l hl => ?_) (fun y hy hb => hg y hy fun l hl p hp => hb l hl p (by dsimp only at hp |-; rw [e l hl]; exact hp)) h k0 k1)
   dsimp only
   rw [e l hl]; exact hc l hl
 ·refine ⟨_, rfl, Ld1 h ?_⟩
  refine ife (fun hd => ?_) (fun _ => h')
  rcases hn with ⟨hf, h1, h2, _⟩ | ⟨hd', _⟩
  ·refine ⟨_, rfl, Ld1 h (ifbf (fun _ => ⟨_, rfl, Ld1 h (ifb (fun hh => ?_) fun _ => h')⟩) (fun hh => ?_))⟩
   ·dsimp only at hh; cases e : s.start.a <;> simp_all
   ·dsimp only at hh; cases e : s.end_.a <;> simp_all
  ·omega
theorem m217SeekGE : MethAt Tryz.prog 217 "SeekGE" 205 := by intro v w; kernel_rfl
theorem m217Next : MethAt Tryz.prog 217 "Next" 203 := by intro v w; kernel_rfl
theorem m217Prev : MethAt Tryz.prog 217 "Prev" 204 := by intro v w; kernel_rfl
theorem m217Error : MethAt Tryz.prog 217 "Error" 200 := by intro v w; kernel_rfl
theorem m219SeekGE : MethAt Tryz.prog 219 "SeekGE" 247 := by intro v w; kernel_rfl
theorem m219Next : MethAt Tryz.prog 219 "Next" 245 := by intro v w; kernel_rfl
theorem m219Prev : MethAt Tryz.prog 219 "Prev" 246 := by intro v w; kernel_rfl
theorem m219Error : MethAt Tryz.prog 219 "Error" 242 := by intro v w; kernel_rfl
theorem MSU.take {c : MC} {s : MSt} {v : UC} {u : UV} {x : Chunk} {R} : Take (MSU c s v u (x :: R)) x (MSU c s v u R) :=
 .there .k13
theorem MSU.there {c : MC} {s : MSt} {v : UC} {u : UV} {x : Chunk} {R R'} (t : Take R x R') : Take (MSU c s v u R) x (MSU c s v u R') :=
 .there (.there (.there (.there (.there (.there (.there (.there (.there (.there (.there (.there (.there (.there t)))))))))))))
def BI (c : MC) (bi : Addr) (isp : Option Addr) : Chunk := Arr bi [.iface 217 (.pointer (some c.m)), .pointer isp, cmpV, .nilFunc, .slice none 0 0, .slice none 0 0, .pointer none, .pointer none, .int .i8 0]
theorem spec249 {c : MC} {bi : Addr} {isp sp : Option Addr} {L R w} {K : Option Addr -> WP} (h : Sat w L) (t : Take L (BI c bi isp) R) (k : ∀ w', Sat w' L -> K sp w') : F249 (some bi) sp K w := by
 unfold F249
 refine ⟨fun (b : Bool) w => b = false /\ Sat w L, ?_, ?_⟩
 ·rintro b w ⟨rfl, h⟩; exact ifb (fun hh => by cases hh) (fun _ => k _ h)
 ·cases sp with
  | none => exact ifNNone ⟨rfl, h⟩
  | some p =>
   have h2 := h.take t
   unfold BI at h2
   exact ifNSome ⟨_, rfl, Ld1 h2 (ifNNone ⟨rfl, h.near⟩)⟩
theorem spec251 {c : MC} {bi : Addr} {isp sp : Option Addr} {L R w} {K : Option Addr -> WP} (h : Sat w L) (t : Take L (BI c bi isp) R) (k : ∀ w', Sat w' L -> K sp w') : F251 (some bi) sp K w := by
 unfold F251
 cases sp with
 | none => exact ifNNone (k _ h.near)
 | some p =>
  have h2 := h.take t
  unfold BI at h2
  exact ifNSome ⟨_, rfl, Ld1 h2 (ifNNone (k _ h.near))⟩
theorem spec250 {c : MC} {bi : Addr} {isp sp : Option Addr} {L L' R w} {K : Option Addr -> WP} (h : Sat w L) (t : Take L (BI c bi isp) R) (t' : Take L' (BI c bi sp) R) (k : ∀ w', Sat w' L' -> K sp w') : F250 (some bi) sp K w := by
 unfold F250
 refine ⟨fun (s3 : Option Addr) w => s3 = sp /\ Sat w L, ?_, ?_⟩
 ·rintro _ w ⟨rfl, h⟩
  have h2 := h.take t
  unfold BI at h2
  refine ⟨_, rfl, St1 h2 rfl fun w h2 => ⟨_, rfl, Ld1 h2 ?_⟩⟩
  exact ifne (fun hh => (hh rfl).elim) (fun _ => k w (Sat.untake h2 t'))
 ·have h2 := h.take t
  unfold BI at h2
  cases sp with
  | none => exact ifNNone ⟨rfl, h.near⟩
  | some p =>
   refine ifNSome ⟨_, rfl, Ld1 h2 ?_⟩
   exact ifNNone (α := Addr) ⟨rfl, h.near⟩
theorem spec252 {c : MC} {bi : Addr} {isp sp : Option Addr} {L L' R w} {K : Option Addr -> WP} (h : Sat w L) (t : Take L (BI c bi isp) R) (t' : Take L' (BI c bi sp) R) (k : ∀ w', Sat w' L' -> K sp w') : F252 (some bi) sp K w := by
 unfold F252
 refine ⟨fun (s3 : Option Addr) w => s3 = sp /\ Sat w L, ?_, ?_⟩
 ·rintro _ w ⟨rfl, h⟩
  have h2 := h.take t
  unfold BI at h2
  refine ⟨_, rfl, St1 h2 rfl fun w h2 => ⟨_, rfl, Ld1 h2 ?_⟩⟩
  exact ifne (fun hh => (hh rfl).elim) (fun _ => k w (Sat.untake h2 t'))
 ·have h2 := h.take t
  unfold BI at h2
  cases sp with
  | none => exact ifNNone ⟨rfl, h.near⟩
  | some p =>
   refine ifNSome ⟨_, rfl, Ld1 h2 ?_⟩
   exact ifNNone (α := Addr) ⟨rfl, h.near⟩
theorem spec247 {c : MC} {s : MSt} {v : UC} {u : UV} {bi : Addr} {isp : Option Addr} {kb : ByteArray} {key : Sl} {R R'} {kc : Chunk} {w} {K : Option Addr -> WP} (cx : CtxOK c v) (hkn : KN s) (t : Take R kc R') (hkey : ∀ w L, Sat w (kc :: L) -> RdB w key.a key.n kb)
  (h : Sat w (MSU c s v u (BI c bi isp :: R)))
  (k0 : ∀ s' u' w', s'.N = 0 -> (∀ y, bcmp kb y <= 0 -> ¬ covd c y) -> Sat w' (MSU c s' v u' (BI c bi none :: R)) -> K none w')
  (k1 : ∀ s' a b sets u' w', Fwd c s' -> Cut c s'.pos a b -> Frag c v.sn s' a b sets -> bcmp kb b < 0 -> (∀ y, bcmp kb y <= 0 -> bcmp y a < 0 -> ¬ covd c y) -> Sat w' (MSU c s' v u' (BI c bi (some (c.m.add 4)) :: R)) -> K (some (c.m.add 4)) w') : F247 (some bi) key K w := by
 unfold F247
 have h2 := h.take MSU.take
 unfold BI at h2
 refine ⟨_, rfl, Ld1 h2 ?_⟩
 refine CallI_run m217SeekGE (call205 (key2 := key) (spec205 cx hkn (.there t) hkey h.near ?_ ?_))
 ·intro s' u' w hz hn h
  exact call249 (spec249 h MSU.take fun w h => call251 (spec251 h MSU.take fun w h => call250 (spec250 h MSU.take MSU.take fun w h => k0 s' u' w hz hn h)))
 ·intro s' a b sets u' w f1 f2 f3 f4 f5 h
  exact call249 (spec249 h MSU.take fun w h => call251 (spec251 h MSU.take fun w h => call250 (spec250 h MSU.take MSU.take fun w h => k1 s' a b sets u' w f1 f2 f3 f4 f5 h)))
theorem spec245 {c : MC} {s : MSt} {v : UC} {u : UV} {bi : Addr} {isp : Option Addr} {x : ByteArray} {R w} {K : Option Addr -> WP} (cx : CtxOK c v) (hn : NextAt c s x) (h : Sat w (MSU c s v u (BI c bi isp :: R)))
  (k0 : ∀ s' u' w', s'.N = 0 -> (∀ y, bcmp x y <= 0 -> ¬ covd c y) -> Sat w' (MSU c s' v u' (BI c bi none :: R)) -> K none w')
  (k1 : ∀ s' a b sets u' w', Fwd c s' -> Cut c s'.pos a b -> Frag c v.sn s' a b sets -> bcmp x a <= 0 -> (∀ y, bcmp x y <= 0 -> bcmp y a < 0 -> ¬ covd c y) -> Sat w' (MSU c s' v u' (BI c bi (some (c.m.add 4)) :: R)) -> K (some (c.m.add 4)) w') : F245 (some bi) K w := by
 unfold F245
 have h2 := h.take MSU.take
 unfold BI at h2
 refine ⟨_, rfl, Ld1 h2 ?_⟩
 refine ife (fun hh => by omega) (fun _ => ife (fun _ => ?_) (fun hh => (hh rfl).elim))
 refine ⟨fun _ w => Sat w (MSU c s v u (BI c bi isp :: R)), ?_, ?_⟩
 ·rintro _ w h
  refine ⟨fun _ w => Sat w (MSU c s v u (BI c bi isp :: R)), ?_, ?_⟩
  ·rintro _ w h
   have h2 := h.take MSU.take
   unfold BI at h2
   refine ⟨_, rfl, Ld1 h2 ?_⟩
   refine CallI_run m217Next (call203 (spec203 cx hn h.near ?_ ?_))
   ·intro s' u' w hz hn h
    exact call249 (spec249 h MSU.take fun w h => call250 (spec250 h MSU.take MSU.take fun w h => k0 s' u' w hz hn h))
   ·intro s' a b sets u' w f1 f2 f3 f4 f5 h
    exact call249 (spec249 h MSU.take fun w h => call250 (spec250 h MSU.take MSU.take fun w h => k1 s' a b sets u' w f1 f2 f3 f4 f5 h))
  ·refine ⟨fun b w => b = false /\ Sat w (MSU c s v u (BI c bi isp :: R)), ?_, ?_⟩
   ·rintro b w ⟨rfl, h⟩; exact ifb (fun hh => by cases hh) (fun _ => h)
   ·have h2 := h.take MSU.take
    unfold BI at h2
    refine ⟨_, rfl, Ld1 h2 ?_⟩
    cases isp with
    | none => exact ifNNone ⟨rfl, h.near⟩
    | some p => exact ifNSome ⟨_, rfl, Ld1 h2 (ifNNone ⟨rfl, h.near⟩)⟩
 ·refine ⟨_, rfl, Ld1 h2 ?_⟩
  cases isp with
  | none => exact ifNNone h.near
  | some p =>
   refine ifNSome ⟨_, rfl, Ld1 h2 ?_⟩
   exact ifNNone (α := Addr) h.near
theorem spec246 {c : MC} {s : MSt} {v : UC} {u : UV} {bi : Addr} {isp : Option Addr} {x : ByteArray} {R w} {K : Option Addr -> WP} (cx : CtxOK c v) (hn : PrevAt c s x) (h : Sat w (MSU c s v u (BI c bi isp :: R)))
  (k0 : ∀ s' u' w', s'.N = 0 -> s'.dir = -1 -> KN s' -> (∀ l, l < c.k -> s'.pos l = -1) -> (∀ y, bcmp y x < 0 -> ¬ covd c y) -> Sat w' (MSU c s' v u' (BI c bi none :: R)) -> K none w')
  (k1 : ∀ s' a b sets u' w', Bwd c s' -> Cut c (fun l => s'.pos l + 1) a b -> Frag c v.sn s' a b sets -> bcmp b x <= 0 -> (∀ y, bcmp b y <= 0 -> bcmp y x < 0 -> ¬ covd c y) -> Sat w' (MSU c s' v u' (BI c bi (some (c.m.add 4)) :: R)) -> K (some (c.m.add 4)) w') : F246 (some bi) K w := by
 unfold F246
 have h2 := h.take MSU.take
 unfold BI at h2
 refine ⟨_, rfl, Ld1 h2 ?_⟩
 refine ife (fun hh => by omega) (fun _ => ife (fun _ => ?_) (fun hh => (hh rfl).elim))
 refine ⟨fun _ w => Sat w (MSU c s v u (BI c bi isp :: R)), ?_, ?_⟩
 ·rintro _ w h
  refine ⟨fun _ w => Sat w (MSU c s v u (BI c bi isp :: R)), ?_, ?_⟩
  ·rintro _ w h
   have h2 := h.take MSU.take
   unfold BI at h2
   refine ⟨_, rfl, Ld1 h2 ?_⟩
   refine CallI_run m217Prev (call204 (spec204 cx hn h.near ?_ ?_))
   ·intro s' u' w hz hd hk hp hn h
    exact call251 (spec251 h MSU.take fun w h => call252 (spec252 h MSU.take MSU.take fun w h => k0 s' u' w hz hd hk hp hn h))
   ·intro s' a b sets u' w f1 f2 f3 f4 f5 h
    exact call251 (spec251 h MSU.take fun w h => call252 (spec252 h MSU.take MSU.take fun w h => k1 s' a b sets u' w f1 f2 f3 f4 f5 h))
  ·refine ⟨fun b w => b = false /\ Sat w (MSU c s v u (BI c bi isp :: R)), ?_, ?_⟩
   ·rintro b w ⟨rfl, h⟩; exact ifb (fun hh => by cases hh) (fun _ => h)
   ·have h2 := h.take MSU.take
    unfold BI at h2
    refine ⟨_, rfl, Ld1 h2 ?_⟩
    cases isp with
    | none => exact ifNNone ⟨rfl, h.near⟩
    | some p => exact ifNSome ⟨_, rfl, Ld1 h2 (ifNNone ⟨rfl, h.near⟩)⟩
 ·refine ⟨_, rfl, Ld1 h2 ?_⟩
  cases isp with
  | none => exact ifNNone h.near
  | some p =>
   refine ifNSome ⟨_, rfl, Ld1 h2 ?_⟩
   exact ifNNone (α := Addr) h.near
def ErrOK (c : MC) (s : MSt) : Prop := 0 < s.N -> s.N <= 10 /\ mval c s.pos (s.f 0)
theorem Fwd.err {c : MC} {s : MSt} (ok : c.Ok) (h : Fwd c s) : ErrOK c s := fun h0 => ⟨by have := ok.k10; have := h.N; omega, h.heap.ok 0 h0⟩
theorem Bwd.err {c : MC} {s : MSt} (ok : c.Ok) (h : Bwd c s) : ErrOK c s := fun h0 => ⟨by have := ok.k10; have := h.N; omega, h.heap.ok 0 h0⟩
theorem spec200 {c : MC} {s : MSt} {R w} {K : IV -> WP} (he : ErrOK c s) (h : Sat w (MSL c s R)) (k : ∀ w', Sat w' (MSL c s R) -> K .nil w') : F200 (some c.m) K w := by
 unfold F200
 have h' := h
 unfold MSL hp MSR at h
 refine ⟨fun _ w => 0 < s.N /\ Sat w (MSL c s R), ?_, ?_⟩
 ·rintro _ w ⟨h0, h'⟩
  obtain ⟨hN, hv⟩ := he h0
  have h := h'
  unfold MSL hp MSR at h
  obtain ⟨_, r2, _, _⟩ := rootRead (h'.near (w' := w.drew)) hN h0 hv
  obtain ⟨y, hy, h2⟩ := levOpen (levTake hv.1 (h'.near (w' := w.drew)))
  refine ⟨_, rfl, Ld1 h ⟨_, rfl, Ld1 h ⟨_, rfl, Ld1 h ⟨_, rfl, Ld1 h ⟨⟨by omega, by dsimp only; omega⟩, _, rfl, LdC r2 ⟨⟨by omega, by have := hv.1; dsimp only; omega⟩, _, rfl, ?_⟩⟩⟩⟩⟩⟩
  rw [Int.toNat_natCast]
  show Ld _ ((c.q (s.f 0)).add 0) _ _
  refine Ld1 h2 ?_
  exact CallI_run m223Error (call271 (spec271 (decI_nil (k _ h'.near))))
 ·refine ⟨_, rfl, Ld1 h ⟨_, rfl, call209 (spec209 (X := mX c s.pos) h' ?_)⟩⟩
  refine ifef (fun hp => ?_) (fun _ => ?_)
  ·refine ⟨_, rfl, Ld1 h ⟨IsI_enc _, ?_⟩⟩
   rw [isNilI_enc]
   exact ifn (fun hh => by cases hh) (fun _ => ⟨by omega, h'⟩)
  ·refine ⟨_, rfl, Ld1 h ?_⟩
   exact decI_nil (k _ h')
theorem spec242 {c : MC} {s : MSt} {v : UC} {u : UV} {bi : Addr} {isp : Option Addr} {R w} {K : IV -> WP} (he : ErrOK c s) (h : Sat w (MSU c s v u (BI c bi isp :: R))) (k : ∀ w', Sat w' (MSU c s v u (BI c bi isp :: R)) -> K .nil w') : F242 (some bi) K w := by
 unfold F242
 have h2 := h.take MSU.take
 unfold BI at h2
 refine ⟨_, rfl, Ld1 h2 ?_⟩
 exact CallI_run m217Error (call200 (spec200 he h.near fun w h => decI_nil (k _ h)))
structure IsC (sn : Int) (ms : List KeyM) (svs : List (ByteArray × ByteArray)) : Prop where
 so : svs.Pairwise fun a b => bcmp a.1 b.1 < 0
 mem : ∀ s v, (s, v) ∈ svs ↔ ∃ m ∈ ms, m.tr / 256 < sn /\ m.tr % 256 = 21 /\ m.suf = s /\ m.val = v /\ ∀ m' ∈ ms, m'.tr / 256 < sn -> m.tr < m'.tr -> m'.tr % 256 ≠ 19 /\ m'.suf ≠ s
theorem sorted_ext {α : Type} {lt : α -> α -> Prop} (ir : ∀ a, ¬ lt a a) (asy : ∀ a b, lt a b -> ¬ lt b a) : ∀ {l l' : List α}, l.Pairwise lt -> l'.Pairwise lt -> (∀ x, x ∈ l ↔ x ∈ l') -> l = l'
 | [], [], _, _, _ => rfl
 | [], b :: l', _, _, h => by have := (h b).2 (by simp); simp at this
 | a :: l, [], _, _, h => by have := (h a).1 (by simp); simp at this
 | a :: l, b :: l', h1, h2, h => by
  obtain ⟨h1a, h1l⟩ := List.pairwise_cons.1 h1
  obtain ⟨h2b, h2l⟩ := List.pairwise_cons.1 h2
  have hab : a = b := by
   rcases List.mem_cons.1 ((h a).1 (by simp)) with e | ha
   ·exact e
   ·rcases List.mem_cons.1 ((h b).2 (by simp)) with e | hb
    ·exact e.symm
    ·exact absurd (h1a b hb) (asy _ _ (h2b a ha))
  subst hab
  rw [sorted_ext ir asy h1l h2l fun x => ?_]
  constructor
  ·intro hx
   rcases List.mem_cons.1 ((h x).1 (List.mem_cons_of_mem _ hx)) with e | hx'
   ·subst e; exact absurd (h1a x hx) (ir x)
   ·exact hx'
  ·intro hx
   rcases List.mem_cons.1 ((h x).2 (List.mem_cons_of_mem _ hx)) with e | hx'
   ·subst e; exact absurd (h2b x hx) (ir x)
   ·exact hx'
theorem IsC.unique {sn : Int} {ms : List KeyM} {a b : List (ByteArray × ByteArray)} (h : IsC sn ms a) (k : IsC sn ms b) : a = b :=
 sorted_ext (fun x h => by rw [bcmp_refl] at h; omega) (fun x y h k => by have := bcmp_anti x.1 y.1; omega) h.so k.so fun ⟨s, v⟩ => (h.mem s v).trans (k.mem s v).symm
theorem collect_mem (sn : Int) : ∀ (l : List KC), l.Pairwise (fun a b => b.1 < a.1) -> ∀ k, k ∈ (collect sn l).1 ↔ k ∈ l /\ vis sn k = true /\ k.1 % 256 ≠ 19 /\ ∀ k' ∈ l, vis sn k' = true -> k.1 < k'.1 -> k'.1 % 256 ≠ 19
 | [], _, k => by simp [collect]
 | x :: l, hp, k => by
  obtain ⟨hx, hl⟩ := List.pairwise_cons.1 hp
  have ih := collect_mem sn l hl k
  unfold collect
  split
  ·rename_i hv
   split
   ·rename_i h19
    simp only [List.not_mem_nil, false_iff]
    rintro ⟨hk, _, hn, ha⟩
    rcases List.mem_cons.1 hk with rfl | hk
    ·exact hn h19
    ·exact ha x (by simp) hv (hx k hk) h19
   ·rename_i h19
    simp only [List.mem_cons]
    rw [ih]
    constructor
    ·rintro (rfl | ⟨hk, h1, h2, h3⟩)
     ·refine ⟨.inl rfl, hv, h19, fun k' hk' _ hlt => ?_⟩
      rcases hk' with rfl | hk'
      ·omega
      ·have := hx k' hk'; omega
     ·refine ⟨.inr hk, h1, h2, fun k' hk' hv' hlt => ?_⟩
      rcases hk' with rfl | hk'
      ·exact h19
      ·exact h3 k' hk' hv' hlt
    ·rintro ⟨hk, h1, h2, h3⟩
     rcases hk with rfl | hk
     ·exact .inl rfl
     ·exact .inr ⟨hk, h1, h2, fun k' hk' => h3 k' (.inr hk')⟩
  ·rename_i hv
   rw [ih]
   simp only [List.mem_cons]
   constructor
   ·rintro ⟨hk, h1, h2, h3⟩
    refine ⟨.inr hk, h1, h2, fun k' hk' hv' hlt => ?_⟩
    rcases hk' with rfl | hk'
    ·exact absurd hv' hv
    ·exact h3 k' hk' hv' hlt
   ·rintro ⟨hk, h1, h2, h3⟩
    rcases hk with rfl | hk
    ·exact absurd h1 hv
    ·exact ⟨hk, h1, h2, fun k' hk' => h3 k' (.inr hk')⟩
theorem collect_sublist (sn : Int) : ∀ (l : List KC), ((collect sn l).1).Sublist l
 | [] => by simp [collect]
 | x :: l => by
  unfold collect
  split
  ·split
   ·exact List.nil_sublist _
   ·exact (collect_sublist sn l).cons_cons x
  ·exact (collect_sublist sn l).cons x
theorem pairwise_range {α : Type} {R : α -> α -> Prop} {n : Nat} {d : Nat -> α} (h : ∀ i j, i < j -> j < n -> R (d i) (d j)) : ((List.range n).map d).Pairwise R := by
 rw [List.pairwise_map]
 have := List.pairwise_lt_range (n := n)
 refine this.imp_of_mem fun {a b} ha hb hab => h a b hab (List.mem_range.1 hb)
theorem getD_of {l : List KC} {j : Nat} (h : j < l.length) : l.getD j kd = l[j] := by rw [List.getD_eq_getElem?_getD, List.getElem?_eq_getElem h]; rfl
def Dist (l : List KC) : Prop := ∀ i j, i < l.length -> j < l.length -> (l.getD i kd).1 = (l.getD j kd).1 -> i = j
theorem TrSorted.desc {acc out : List KC} (h : TrSorted acc out) (hd : Dist acc) : out.Pairwise (fun a b => b.1 < a.1) := by
 obtain ⟨d', ⟨σ, τ, h1, h2, h3, h4, h5⟩, hs, rfl⟩ := h
 refine pairwise_range fun i j hij hj => ?_
 have h6 := hs i j hij hj
 have h7 : (d' i).1 ≠ (d' j).1 := fun e => by
  rw [h5, h5] at e
  have := hd _ _ (h3 i (Nat.zero_le _) om).2 (h3 j (Nat.zero_le _) hj).2 e
  have := congrArg τ this
  rw [h2, h2] at this
  omega
 omega
theorem TrSorted.all {acc out : List KC} (h : TrSorted acc out) (x : KC) : x ∈ out ↔ x ∈ acc := by
 refine ⟨h.mem.2 x, fun hx => ?_⟩
 obtain ⟨d', ⟨σ, τ, h1, h2, h3, h4, h5⟩, hs, rfl⟩ := h
 obtain ⟨j, hj, e⟩ := List.getElem_of_mem hx
 refine List.mem_map.2 ⟨τ j, List.mem_range.2 ?_, ?_⟩
 ·rcases Nat.lt_or_ge (τ j) acc.length with hh | hh
  ·exact hh
  ·have := h4 (τ j) (.inr hh); rw [h1] at this; omega
 ·rw [h5, h1, <- e]; exact getD_of hj
theorem SufSorted.pair {sb : KC -> ByteArray} {c l : List KC} (h : SufSorted sb c l) (hd : c.Pairwise (fun a b => b.1 < a.1)) : l.Pairwise fun a b => bcmp (sb a) (sb b) < 0 \/ (sb a = sb b /\ b.1 < a.1) := by
 obtain ⟨d', ⟨σ, τ, h1, h2, h3, h4, h5⟩, hs, rfl⟩ := h
 refine pairwise_range fun i j hij hj => ?_
 obtain ⟨g1, g2⟩ := hs i j (Nat.zero_le _) hij hj
 simp only [decide_eq_false_iff_not] at g1 g2
 have hi' := (h3 i (Nat.zero_le _) om).2
 have hj' := (h3 j (Nat.zero_le _) hj).2
 by_cases e : bcmp (sb (d' i).1) (sb (d' j).1) < 0
 ·exact .inl e
 ·refine .inr ⟨bcmp_zero (by have := bcmp_anti (sb (d' i).1) (sb (d' j).1); omega), ?_⟩
  have g3 := g2 e
  rw [h5, h5] at g3 |-
  dsimp only at g3 |-
  rw [getD_of hi', getD_of hj']
  exact List.pairwise_iff_getElem.1 hd _ _ hi' hj' g3
theorem SufSorted.all {sb : KC -> ByteArray} {c l : List KC} (h : SufSorted sb c l) (x : KC) : x ∈ l ↔ x ∈ c := by
 refine ⟨h.mem.2 x, fun hx => ?_⟩
 obtain ⟨d', ⟨σ, τ, h1, h2, h3, h4, h5⟩, hs, rfl⟩ := h
 obtain ⟨j, hj, e⟩ := List.getElem_of_mem hx
 refine List.mem_map.2 ⟨τ j, List.mem_range.2 ?_, ?_⟩
 ·rcases Nat.lt_or_ge (τ j) c.length with hh | hh
  ·exact hh
  ·have := h4 (τ j) (.inr hh); rw [h1] at this; omega
 ·rw [h5, h1, <- e]; exact getD_of hj
theorem ded_mem' (sb : KC -> ByteArray) : ∀ (l : List KC) (p : Option ByteArray), l.Pairwise (fun a b => bcmp (sb a) (sb b) < 0 \/ (sb a = sb b /\ b.1 < a.1)) -> (∀ s, p = some s -> ∀ x ∈ l, bcmp s (sb x) <= 0) ->
  ∀ k, k ∈ ded sb p l ↔ k ∈ l /\ p ≠ some (sb k) /\ ∀ k' ∈ l, sb k' = sb k -> k'.1 <= k.1
 | [], p, _, _, k => by simp [ded]
 | x :: l, p, hp, hs, k => by
  obtain ⟨hx, hl⟩ := List.pairwise_cons.1 hp
  unfold ded
  split
  ·rename_i e
   rw [ded_mem' sb l p hl (fun s e x hx => hs s e x (List.mem_cons_of_mem _ hx)) k]
   simp only [List.mem_cons]
   constructor
   ·rintro ⟨hk, h1, h2⟩
    refine ⟨.inr hk, h1, fun k' hk' he => ?_⟩
    rcases hk' with rfl | hk'
    ·rw [he] at e; exact absurd e h1
    ·exact h2 k' hk' he
   ·rintro ⟨hk, h1, h2⟩
    rcases hk with rfl | hk
    ·exact absurd e h1
    ·exact ⟨hk, h1, fun k' hk' => h2 k' (.inr hk')⟩
  ·rename_i e
   have hle : ∀ y ∈ l, bcmp (sb x) (sb y) <= 0 := fun y hy => by
    rcases hx y hy with h | h
    ·exact Int.le_of_lt h
    ·rw [h.1]; exact le_refl_b _
   simp only [List.mem_cons]
   rw [ded_mem' sb l (some (sb x)) hl (fun s e y hy => by injection e with e; rw [<- e]; exact hle y hy) k]
   constructor
   ·rintro (rfl | ⟨hk, h1, h2⟩)
    ·refine ⟨.inl rfl, e, fun k' hk' he => ?_⟩
     rcases hk' with rfl | hk'
     ·omega
     ·rcases hx k' hk' with h | h
      ·rw [he, bcmp_refl] at h; omega
      ·omega
    ·refine ⟨.inr hk, fun e2 => h1 ?_, fun k' hk' he => ?_⟩
     ·have g1 := hs _ e2 x (by simp)
      have g2 := hle k hk
      have g3 := bcmp_anti (sb x) (sb k)
      rw [bcmp_zero (s := sb x) (t := sb k) om]
     ·rcases hk' with rfl | hk'
      ·exact absurd (by rw [he]) h1
      ·exact h2 k' hk' he
   ·rintro ⟨hk, h1, h2⟩
    rcases hk with rfl | hk
    ·exact .inl rfl
    ·refine .inr ⟨hk, fun e2 => ?_, fun k' hk' => h2 k' (.inr hk')⟩
     injection e2 with e2
     have g1 := h2 x (.inl rfl) e2
     rcases hx k hk with h | h
     ·rw [e2, bcmp_refl] at h; omega
     ·omega
theorem ded_sorted (sb : KC -> ByteArray) : ∀ (l : List KC) (p : Option ByteArray), l.Pairwise (fun a b => bcmp (sb a) (sb b) < 0 \/ (sb a = sb b /\ b.1 < a.1)) -> (∀ s, p = some s -> ∀ x ∈ l, bcmp s (sb x) <= 0) -> (ded sb p l).Pairwise fun a b => bcmp (sb a) (sb b) < 0
 | [], p, _, _ => by simp [ded]
 | x :: l, p, hp, hs => by
  obtain ⟨hx, hl⟩ := List.pairwise_cons.1 hp
  have hle : ∀ y ∈ l, bcmp (sb x) (sb y) <= 0 := fun y hy => by
   rcases hx y hy with h | h
   ·exact Int.le_of_lt h
   ·rw [h.1]; exact le_refl_b _
  have hs' : ∀ s, some (sb x) = some s -> ∀ y ∈ l, bcmp s (sb y) <= 0 := fun s e y hy => by injection e with e; rw [<- e]; exact hle y hy
  unfold ded
  split
  ·exact ded_sorted sb l p hl (fun s e x hx => hs s e x (List.mem_cons_of_mem _ hx))
  ·refine List.pairwise_cons.2 ⟨fun y hy => ?_, ded_sorted sb l _ hl hs'⟩
   obtain ⟨h1, h2, _⟩ := (ded_mem' sb l _ hl hs' y).1 hy
   have g := hle y h1
   have : bcmp (sb x) (sb y) ≠ 0 := fun e => h2 (by rw [bcmp_zero e])
   omega
open Classical in
noncomputable def vbD (D : Hp) (k : KC) : ByteArray := if h : ∃ s, BytesAt D k.2.2 s then h.choose else .empty
theorem vbD_eq {D} {k : KC} {s : ByteArray} (h : BytesAt D k.2.2 s) : vbD D k = s := by
 have hh : ∃ s, BytesAt D k.2.2 s := ⟨s, h⟩
 unfold vbD
 rw [dif_pos hh]
 exact BytesAt.unique hh.choose_spec h
theorem KRel.mem' {D} : ∀ {a : List KC} {b : List KeyM}, KRel D a b -> ∀ m ∈ b, ∃ k ∈ a, k.1 = m.tr /\ BytesAt D k.2.1 m.suf /\ BytesAt D k.2.2 m.val
 | [], [], _, k, hk => by simp at hk
 | [], _ :: _, h, _, _ => h.elim
 | _ :: _, [], h, _, _ => h.elim
 | x :: a, m :: b, ⟨h1, h2⟩, k, hk => by
  rcases List.mem_cons.1 hk with rfl | hk
  ·exact ⟨x, by simp, h1⟩
  ·obtain ⟨m', hm, e⟩ := KRel.mem' h2 k hk
   exact ⟨m', List.mem_cons_of_mem _ hm, e⟩
theorem KRel.trs {D} : ∀ {a : List KC} {b : List KeyM}, KRel D a b -> a.map (·.1) = b.map (·.tr)
 | [], [], _ => rfl
 | [], _ :: _, h => h.elim
 | _ :: _, [], h => h.elim
 | x :: a, m :: b, ⟨h1, h2⟩ => by simp [h1.1, KRel.trs h2]
theorem dist_of {acc : List KC} (h : (acc.map (·.1)).Nodup) : Dist acc := fun i j hi hj e => by
 rw [getD_of hi, getD_of hj] at e
 have hi' : i < (acc.map (·.1)).length := by simpa using hi
 have hj' : j < (acc.map (·.1)).length := by simpa using hj
 exact (List.getElem_inj (h₀ := hi') (h₁ := hj') h).1 (by simpa using e)
def SVs (D : Hp) : List KC -> List (ByteArray × ByteArray) -> Prop
 | [], [] => True
 | k :: ks, p :: ps => (BytesAt D k.2.1 p.1 /\ BytesAt D k.2.2 p.2) /\ SVs D ks ps
 | _, _ => False
theorem SVs.map {D} : ∀ {l : List KC}, (∀ k ∈ l, BytesAt D k.2.1 (sbD D k) /\ BytesAt D k.2.2 (vbD D k)) -> SVs D l (l.map fun k => (sbD D k, vbD D k))
 | [], _ => trivial
 | k :: l, h => ⟨h k (by simp), SVs.map fun x hx => h x (List.mem_cons_of_mem _ hx)⟩
theorem SVs.len {D} : ∀ {l : List KC} {s : List (ByteArray × ByteArray)}, SVs D l s -> l.length = s.length
 | [], [], _ => rfl
 | [], _ :: _, h => h.elim
 | _ :: _, [], h => h.elim
 | _ :: _, _ :: _, ⟨_, h⟩ => by simp [SVs.len h]
theorem SVs.get {D} : ∀ {l : List KC} {s : List (ByteArray × ByteArray)}, SVs D l s -> ∀ (j : Nat) (hj : j < l.length) (hj' : j < s.length), BytesAt D (l[j]).2.1 (s[j]).1 /\ BytesAt D (l[j]).2.2 (s[j]).2
 | [], [], _, j, hj, _ => by simp at hj
 | [], _ :: _, h, _, _, _ => h.elim
 | _ :: _, [], h, _, _, _ => h.elim
 | k :: l, p :: s, ⟨h1, h2⟩, j, hj, hj' => by
  cases j with
  | zero => exact h1
  | succ j => exact SVs.get h2 j (by simpa using hj) (by simpa using hj')
theorem Vis.sv {D} {sn : Int} {ms : List KeyM} {sets : List KC} (h : Vis D sn ms sets) (nd : (ms.map (·.tr)).Nodup) : ∃ svs, SVs D sets svs /\ IsC sn ms svs := by
 obtain ⟨acc, out, l, hrel, hout, hl, rfl⟩ := h
 have hdesc := hout.desc (dist_of (by rw [hrel.trs]; exact nd))
 have hcd := hdesc.sublist (collect_sublist sn out)
 have hlp := hl.pair hcd
 have hmem : ∀ k, k ∈ (ded (sbD D) none l).filter isSet ↔ k ∈ acc /\ k.1 / 256 < sn /\ k.1 % 256 = 21 /\ ∀ k' ∈ acc, k'.1 / 256 < sn -> k.1 < k'.1 -> k'.1 % 256 ≠ 19 /\ sbD D k' ≠ sbD D k := fun k => by
  have hv : ∀ x : KC, vis sn x = true ↔ x.1 / 256 < sn := fun x => by simp [vis]
  rw [List.mem_filter, ded_mem' (sbD D) l none hlp (fun s e => by cases e) k, hl.all, collect_mem sn out hdesc k]
  simp only [hout.all, hv, isSet, decide_eq_true_eq, ne_eq, reduceCtorEq, not_false_eq_true, true_and]
  constructor
  ·rintro ⟨⟨⟨h1, h2, h3, h4⟩, h5⟩, h6⟩
   refine ⟨h1, h2, h6, fun k' hk' hv' hlt => ⟨h4 k' hk' hv' hlt, fun he => ?_⟩⟩
   have := h5 k' ?_ he
   ·omega
   ·rw [hl.all, collect_mem sn out hdesc k']
    simp only [hout.all, hv]
    exact ⟨hk', hv', h4 k' hk' hv' hlt, fun k'' hk'' hv'' hlt' => h4 k'' hk'' hv'' om⟩
  ·rintro ⟨h1, h2, h3, h4⟩
   refine ⟨⟨⟨h1, h2, by omega, fun k' hk' hv' hlt => (h4 k' hk' hv' hlt).1⟩, fun k' hk' he => ?_⟩, h3⟩
   rw [hl.all, collect_mem sn out hdesc k'] at hk'
   simp only [hout.all, hv] at hk'
   refine Int.not_lt.1 fun hlt => (h4 k' hk'.1 hk'.2.1 hlt).2 he
 have hb : ∀ k ∈ acc, ∃ m ∈ ms, k.1 = m.tr /\ sbD D k = m.suf /\ vbD D k = m.val := fun k hk => by
  obtain ⟨m, hm, e1, e2, e3⟩ := hrel.mem k hk
  exact ⟨m, hm, e1, sbD_eq e2, vbD_eq e3⟩
 have hb' : ∀ m ∈ ms, ∃ k ∈ acc, k.1 = m.tr /\ sbD D k = m.suf /\ vbD D k = m.val := fun m hm => by
  obtain ⟨k, hk, e1, e2, e3⟩ := hrel.mem' m hm
  exact ⟨k, hk, e1, sbD_eq e2, vbD_eq e3⟩
 refine ⟨_, SVs.map fun k hk => ?_, ⟨?_, fun s v => ?_⟩⟩
 ·obtain ⟨m, hm, e1, e2, e3⟩ := hrel.mem k ((hmem k).1 hk).1
  rw [sbD_eq e2, vbD_eq e3]; exact ⟨e2, e3⟩
 ·rw [List.pairwise_map]
  exact (ded_sorted (sbD D) l none hlp (fun s e => by cases e)).sublist (List.filter_sublist)
 ·constructor
  ·intro h
   obtain ⟨k, hk, e⟩ := List.mem_map.1 h
   injection e with es ev
   obtain ⟨h1, h2, h3, h4⟩ := (hmem k).1 hk
   obtain ⟨m, hm, e1, e2, e3⟩ := hb k h1
   refine ⟨m, hm, by omega, by omega, by rw [<- e2, es], by rw [<- e3, ev], fun m' hm' hv' hlt => ?_⟩
   obtain ⟨k', hk', g1, g2, g3⟩ := hb' m' hm'
   have := h4 k' hk' om om
   rw [<- es, <- g2, <- g1]; exact this
  ·rintro ⟨m, hm, h2, h3, rfl, rfl, h4⟩
   obtain ⟨k, hk, e1, e2, e3⟩ := hb' m hm
   refine List.mem_map.2 ⟨k, (hmem k).2 ⟨hk, by omega, by omega, fun k' hk' hv' hlt => ?_⟩, by rw [e2, e3]⟩
   obtain ⟨m', hm', g1, g2, g3⟩ := hb k' hk'
   have := h4 m' hm' om om
   rw [g2, g1, e2]; exact this
end Go.Proofs.YtpkoddfamelnhaaGreatDoor
namespace Go.Tr
theorem Sat.absorb {w} {D : Hp} {c : Chunk} {L} (h : Sat w (Own D :: c :: L)) : ∃ G g : Hp, c g /\ D.le G /\ g.le G /\ Sat w (Own G :: L) := by
 obtain ⟨G, ⟨g1, g2, h1, h2, hd, rfl⟩, hg, hr⟩ := Sat.star.2 h
 have h1 : g1 = D := h1
 subst h1
 refine ⟨_, g2, h2, fun a x e => by simp [e], fun a x e => ?_, _, rfl, hg, hr⟩
 have := (hd a).resolve_right (by simp [e])
 simp [this, e]
theorem bytesAt_arr {g G : Hp} {p : Addr} {s : ByteArray} {ys : List Value} {c : Nat} (h : Arr p (bytesOf s ++ ys) g) (l : g.le G) : BytesAt G ⟨some p, s.size, c⟩ s :=
 ⟨rfl, fun j v e => ⟨false, l _ _ (h.1 j v (by
  have hj : j < (bytesOf s).length := (List.getElem?_eq_some_iff.1 e).1
  rw [List.getElem?_append_left hj]; exact e))⟩⟩
theorem CopyP_fit {s : SI} {w w1 L} {d x : Sl} {p : Addr} {xs new : List Value} {K : Int -> WP} (h : Sat w (Arr p xs :: L)) [Near w w1] (hd : d.a = some p) (hxl : new.length <= xs.length) (hn : x.n <= d.n)
  (hx : RdS w1 x.a (x.n * s.l.length) new) (h1 : ∀ v ∈ new, v.oneCell' = true) (k : ∀ w', Sat w' (Arr p (new ++ xs.drop new.length) :: L) -> K x.n w') : CopyP s d x K w1 := by
 have e : Nat.min x.n d.n = x.n := Nat.min_eq_left hn
 obtain ⟨ho, hs⟩ := setArr (p := p) (o := 0) (vs := new) (xs := xs) om (h.near (w' := w1)) h1
 refine ⟨new, by rw [e]; exact hx, ?_, ?_⟩
 ·rw [hd]; exact ho
 ·rw [hd, e]
  refine k _ ?_
  rw [List.take_zero, List.nil_append, Nat.zero_add] at hs
  exact hs
def Spr (A : Sl) : Chunk := fun g => match A.a with | none => A.n = 0 /\ A.c = 0 /\ ∀ a, g a = none | some a => ∃ sp : List Value, A.n + sp.length = A.c /\ Arr (a.add A.n) sp g
theorem Spr.le {w} {A : Sl} {L} (h : Sat w (Spr A :: L)) : A.n <= A.c := by
 obtain ⟨g, hg, _⟩ := h
 unfold Spr at hg
 cases e : A.a with
 | none => rw [e] at hg; obtain ⟨h1, h2, _⟩ := hg; omega
 | some a => rw [e] at hg; obtain ⟨sp, h1, _⟩ := hg; omega
theorem zrep_len (l : List S) (n : Nat) : (zrep l n).length = n * l.length := by simp [zrep]
end Go.Tr
namespace Go.Proofs.YtpkoddfamelnhaaGreatDoor
open Go Go.Tr
set_option maxRecDepth 100000
theorem spec269 {A : Sl} {n : Nat} {w L} {K : Sl -> WP} (hc : A.c <= 2^41) (hn : n <= 2^40) (h : Sat w L) (k : ∀ A' w', A'.n = 0 -> n <= A'.c -> A'.c <= 2^41 -> Sat w' (Spr A' :: L) -> K A' w') : F269 A n K w := by
 unfold F269
 have e2 : IntKind.i64.wrap ((A.c : Int) * 2) = (A.c : Int) * 2 := wi64 om om
 rw [e2]
 refine ⟨fun (x : Int) w => 0 <= x /\ x <= 524288 /\ Sat w L, ?_, ?_⟩
 ·rintro x w ⟨h0, h1, h⟩
  have key : ∀ (m : Int), 0 <= m -> (n : Int) <= m -> m <= 2^41 -> MakeP si87 0 m (fun r w => K r w) w := fun m m0 m1 m2 => by
   refine MakeP_run h ⟨by omega, by omega, by show (1 : Int) * m <= _; omega, by omega⟩ fun p w h => ?_
   refine k _ _ rfl (by dsimp only; omega) (by dsimp only; omega) (h.cons fun g hg => ⟨_, ?_, hg⟩)
   rw [zrep_len]; show 0 + m.toNat * 1 = m.toNat; omega
  refine ifd (fun hlt => ?_) (fun hge => ?_)
  ·exact key _ om om om
  ·exact key _ om om om
 ·refine ifd (fun _ => ⟨by omega, by omega, h⟩) (fun h1 => ifd (fun _ => ⟨by omega, by omega, h⟩) (fun h2 => ⟨by omega, by omega, h⟩))
theorem spec267 {A src : Sl} {s : ByteArray} {D2 : Hp} {L R'} {kc : Chunk} {w} {K : Sl × Sl -> WP} (hc : A.c <= 2^41) (hn : src.n <= 2^40) (hsz : s.size = src.n) (t : Take L kc R') (hsrc : ∀ w L, Sat w (kc :: L) -> RdB w src.a src.n s)
  (h : Sat w (Own D2 :: Spr A :: L)) (k : ∀ A' r D2' w', A'.c <= 2^41 -> D2.le D2' -> BytesAt D2' r s -> Sat w' (Own D2' :: Spr A' :: L) -> K (A', r) w') : F267 A src K w := by
 unfold F267
 refine call268 (K := fun r w => CopyP si87 r.2 src (fun (c4 : Int) w => K (r.1, r.2) w) w) ?_
 unfold F268
 have hle := Spr.le (h.t1)
 have e1 : IntKind.i64.wrap ((A.c : Int) - (A.n : Int)) = (A.c : Int) - A.n := wi64 om om
 rw [e1]
 refine ⟨fun (B : Sl) w => B.n + src.n <= B.c /\ B.c <= 2^41 /\ Sat w (Own D2 :: Spr B :: L), ?_, ?_⟩
 rotate_left
 ·refine ifd (fun hlt => ?_) (fun hge => ⟨by omega, hc, h⟩)
  exact call269 (a1 := A) (spec269 hc om h fun A' w a1 a2 a3 h => ⟨by omega, a3, (h.t1.take .k2).tail⟩)
 clear h hle e1
 rintro B w ⟨hfit, hB, h⟩
 have e1 : IntKind.i64.wrap ((B.n : Int) + (src.n : Int)) = ((B.n + src.n : Nat) : Int) := by rw [wi64 om om]; omega
 rw [e1]
 refine ⟨by omega, by omega, ?_⟩
 rw [Int.toNat_natCast, show B.n + src.n - B.n = src.n by omega]
 have h0 := h
 obtain ⟨a, n, c⟩ := B
 dsimp only at hfit hB |-
 by_cases hz : src.n = 0
 ·
  have es : bytesOf s = [] := List.eq_nil_of_length_eq_zero (by rw [bytesOf_length, hsz, hz])
  have hse : s = .empty := ByteArray.ext (Array.eq_empty_of_size_eq_zero (by rw [<- hz, <- hsz]; rfl))
  have hsub : (sub a 1 n (n + src.n) (n + src.n)).a = a := by unfold sub; rw [if_pos om]
  rw [hsub, hz]
  refine ⟨[], ?_, ?_, ?_⟩
  ·have := hsrc w _ (h.take (.there (.there t)))
   show RdS w src.a (Nat.min src.n 0 * 1) []
   cases e : src.a with
   | none => rfl
   | some p => exact ⟨by simp, fun j v e => by simp at e⟩
  ·cases a with
   | none => exact trivial
   | some a => exact fun j v e => by simp at e
  ·have hst : stS w a 0 [] = w := by cases a <;> rfl
   show K (⟨a, n + 0, c⟩, ⟨a, 0, 0⟩) (stS w a 0 [])
   rw [hst]
   refine k _ _ D2 w hB (Hp.le_refl _) ?_ ?_
   ·cases a with
    | none => exact hse
    | some a => exact ⟨by rw [hsz, hz], fun j v e => by rw [es] at e; simp at e⟩
   ·exact h
 ·obtain ⟨g, hg, _⟩ := h.t1
  cases a with
  | none =>
   unfold Spr at hg
   have := hg.2.1
   dsimp only at this
   omega
  | some a =>
   have hsub : (sub (some a) 1 n (n + src.n) (n + src.n)).a = some (a.add n) := by unfold sub; rw [if_neg om, Nat.mul_one]; rfl
   rw [hsub]
   have h1 : Sat w ((fun g => ∃ sp : List Value, n + sp.length = c /\ Arr (a.add n) sp g) :: Own D2 :: L) := h.t1
   obtain ⟨sp, hsp, h2⟩ := Sat.ex h1
   have esp : sp = sp.take src.n ++ sp.drop src.n := (List.take_append_drop _ _).symm
   have htl : (sp.take src.n).length = src.n := by rw [List.length_take]; omega
   rw [esp] at h2
   have h3 := h2.split
   rw [htl] at h3
   have hrd := (hsrc w _ (h.take (.there (.there t)))).rdS
   refine CopyP_fit (p := a.add n) (xs := sp.take src.n) (new := bytesOf s) h3 rfl (by rw [bytesOf_length, htl, hsz]; exact Nat.le_refl _) (Nat.le_refl _) hrd (bytes_one s) fun w h => ?_
   have ed : (sp.take src.n).drop (bytesOf s).length = [] := List.drop_eq_nil_of_le (by rw [bytesOf_length, htl, hsz]; exact Nat.le_refl _)
   rw [ed] at h
   obtain ⟨D2', g', hg', l1, l2, h4⟩ := Sat.absorb (h.t2)
   refine k _ _ D2' w hB l1 ?_ (h4.cons (fun _ h => h) |>.t1.cons (fun g hg => ⟨sp.drop src.n, ?_, ?_⟩) |>.t1)
   ·have := bytesAt_arr (c := src.n) hg' l2
    rw [hsz] at this
    exact this
   ·rw [List.length_drop]; dsimp only; omega
   ·rw [Addr.add_add] at hg; exact hg
end Go.Proofs.YtpkoddfamelnhaaGreatDoor
namespace Go.Tr
instance Nth.zz {v : Value} {vs : List Value} : Nth (v :: vs) (0 + 0) v (fun x => x :: vs) := ⟨rfl, fun _ => rfl⟩
instance AtI.add3 {p : Addr} {vs : List Value} {i j k : Nat} {v : Value} {u : Value -> List Value} [h : Nth vs (i + j + k) v u] : AtI (Arr p vs) (((p.add i).add j).add k) v (fun x => Arr p (u x)) :=
 ⟨by have := at_arr (p := p) h.get; simp only [h.set] at this; rw [Addr.add_add, Addr.add_add, <- Nat.add_assoc]; exact this⟩
def nb (l : List Nat) : List Value := l.map fun (x : Nat) => Value.int .u8 (x : Int)
def bl (s : ByteArray) : List Nat := s.data.toList.map (·.toNat)
theorem bytesOf_bl (s : ByteArray) : bytesOf s = nb (bl s) := by
 unfold bytesOf nb bl
 rw [List.map_map]; rfl
theorem bl_len (s : ByteArray) : (bl s).length = s.size := by unfold bl; rw [List.length_map, Array.length_toList]; rfl
theorem nb_len (l : List Nat) : (nb l).length = l.length := by unfold nb; rw [List.length_map]
theorem nb_app (a b : List Nat) : nb (a ++ b) = nb a ++ nb b := by unfold nb; rw [List.map_append]
theorem nb_one (l : List Nat) : ∀ v ∈ nb l, v.oneCell' = true := fun v hv => by
 obtain ⟨x, _, rfl⟩ := List.mem_map.1 hv; rfl
def vi (n : Nat) : List Nat := if n < 128 then [n] else (n % 128 + 128) :: vi (n / 128)
 termination_by n
 decreasing_by omega
theorem vi_lt {n : Nat} (h : n < 128) : vi n = [n] := by rw [vi, if_pos h]
theorem vi_ge {n : Nat} (h : ¬ n < 128) : vi n = (n % 128 + 128) :: vi (n / 128) := by rw [vi, if_neg h]
theorem vi_pos (n : Nat) : 1 <= (vi n).length := by
 by_cases h : n < 128
 ·rw [vi_lt h]; exact Nat.le_refl 1
 ·rw [vi_ge h]; simp
theorem vi_len4 {n : Nat} (h : n < 2^28) : (vi n).length <= 4 := by
 by_cases h1 : n < 128
 ·rw [vi_lt h1]; simp
 rw [vi_ge h1]
 by_cases h2 : n / 128 < 128
 ·rw [vi_lt h2]; simp
 rw [vi_ge h2]
 by_cases h3 : n / 128 / 128 < 128
 ·rw [vi_lt h3]; simp
 rw [vi_ge h3, vi_lt om]; simp
theorem or128 : ∀ y : Fin 256, IntKind.u8.wrap ((BitVec.ofInt IntKind.u8.bits (y.val : Int) ||| BitVec.ofInt IntKind.u8.bits (128 : Int)).toNat : Int) = ((y.val % 128 + 128 : Nat) : Int) := by decide +kernel
theorem vi_or {n : Nat} : IntKind.u8.wrap ((BitVec.ofInt IntKind.u8.bits (IntKind.u8.wrap (n : Int)) ||| BitVec.ofInt IntKind.u8.bits (128 : Int)).toNat : Int) = ((n % 128 + 128 : Nat) : Int) := by
 have e : IntKind.u8.wrap (n : Int) = ((n % 256 : Nat) : Int) := by simp only [IntKind.wrap, IntKind.bits, IntKind.signed, Bool.false_and, Bool.false_eq_true, if_false]; omega
 rw [e, or128 ⟨n % 256, by omega⟩]
 show (((n % 256) % 128 + 128 : Nat) : Int) = _
 congr 1; omega
theorem fdiv7 {n b : Nat} (hb : 7 <= b) : ((n : Int).fdiv (2 ^ (min 7 b))) = ((n / 128 : Nat) : Int) := by
 rw [Nat.min_eq_left hb, Int.fdiv_eq_ediv_of_nonneg _ (by decide)]
 rfl
theorem arrSt {w w1} {a : Addr} {pre post : List Value} {y x : Value} {i : Nat} {L} {K : WP} (h : Sat w (Arr a (pre ++ y :: post) :: L)) [Near w w1] (hi : i = pre.length) (h1 : x.oneCell' = true)
  (k : ∀ w', Sat w' (Arr a (pre ++ x :: post) :: L) -> K w') : St (a.add (i * 1)) x K w1 := by
 subst hi
 rw [Nat.mul_one]
 have hat := at_arr (p := a) (vs := pre ++ y :: post) (k := pre.length) (v := y) (by simp)
 have h' := h.near (w' := w1)
 refine ⟨h1, ⟨_, (h'.get hat).1⟩, (h'.get hat).2, k _ ?_⟩
 have h3 := h'.set hat x
 simpa using h3
theorem arrCopy {s : SI} {w w1} {a : Addr} {pre junk post new : List Value} {d x : Sl} {L} {K : Int -> WP} (h : Sat w (Arr a (pre ++ (junk ++ post)) :: L)) [Near w w1] (hd : 0 < new.length -> d.a = some (a.add pre.length)) (hj : junk.length = new.length) (hn : x.n <= d.n) (hnn : new.length = x.n * s.l.length)
  (hx : RdS w1 x.a (x.n * s.l.length) new) (h1 : ∀ v ∈ new, v.oneCell' = true) (k : ∀ w', Sat w' (Arr a (pre ++ (new ++ post)) :: L) -> K x.n w') : CopyP s d x K w1 := by
 have e : Nat.min x.n d.n = x.n := Nat.min_eq_left hn
 have h' := h.near (w' := w1)
 rcases Nat.eq_zero_or_pos new.length with h0 | h0
 ·have en : new = [] := List.length_eq_zero_iff.1 h0
  have ej : junk = [] := List.length_eq_zero_iff.1 om
  subst en ej
  refine ⟨[], by rw [e]; exact hx, ?_, ?_⟩
  ·unfold StOkS
   cases d.a with
   | none => trivial
   | some p => exact fun j v hv => by simp at hv
  ·rw [e]
   have : stS w1 d.a 0 [] = w1 := by unfold stS; cases d.a <;> rfl
   rw [this]
   exact k w1 h'
 ·obtain ⟨ho, hs⟩ := setArr (p := a) (o := pre.length) (vs := new) (xs := pre ++ (junk ++ post)) (by simp only [List.length_append]; omega) h' h1
  refine ⟨new, by rw [e]; exact hx, ?_, ?_⟩
  ·rw [hd h0]; exact ho
  ·rw [hd h0, e]
   refine k _ ?_
   have e2 : (pre ++ (junk ++ post)).take pre.length ++ new ++ (pre ++ (junk ++ post)).drop (pre.length + new.length) = pre ++ (new ++ post) := by
    rw [List.take_left' rfl, <- hj, <- List.drop_drop, List.drop_left' rfl, List.drop_left' rfl, List.append_assoc]
   rw [e2] at hs
   exact hs
end Go.Tr
