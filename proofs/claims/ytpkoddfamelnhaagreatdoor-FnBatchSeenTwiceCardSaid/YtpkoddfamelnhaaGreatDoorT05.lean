/- Part 5 of the proof of fnBatchSeenTwice_card. Conditions: none. -/
import Derived.Test.YtpkoddfamelnhaaGreatDoorT04
set_option linter.unusedVariables false
set_option linter.unusedSimpArgs false
namespace Go.Tr
section
variable {P : Program} {T : Tab} {n : Nat}
def ExtM (M : (Value -> WP) -> WP) : Prop := ∀ (K K' : Value -> WP) (w0 w : World), (∀ v w', K v w' -> Ext w0 w' -> K' v w') -> Ext w0 w -> M K w -> M K' w
def Step.ext : Step -> Prop | .loud M => ExtM M | _ => True
theorem optv_ext (o : Option Value) : (optv o).ext := by unfold optv; split <;> trivial
theorem intOp_ext (op : BinOp) (k : IntKind) (x y : Int) : (intOp op k x y).ext := by unfold intOp; split <;> trivial
theorem strOp_ext (op : BinOp) (x y : ByteArray) : (strOp op x y).ext := by unfold strOp; split <;> trivial
theorem eqnStep_ext (op : BinOp) (c : Bool) : (eqnStep op c).ext := by unfold eqnStep; split <;> trivial
theorem bif_ext (b : Bool) {s : Step} (h : s.ext) : (bif b then s else .bad).ext := by cases b <;> first | trivial | exact h
theorem cmpStep_ext (op : BinOp) (t : Nat) (y' : Operand) (x y : Value) : (cmpStep T op t y' x y).ext := by
 unfold cmpStep
 split
 ·split
  ·unfold ptrCmp; split <;> first | exact eqnStep_ext _ _ | trivial
  ·unfold slCmp; split <;> first | exact eqnStep_ext _ _ | trivial
  ·unfold ifcCmp; split <;> (try split) <;> trivial
  ·unfold scCmp; split <;> (try split) <;> first | exact intOp_ext _ _ _ _ | exact strOp_ext _ _ _ | trivial
 ·unfold stCmp; split <;> (try split) <;> first | exact bif_ext _ trivial | trivial
 ·trivial
theorem binStep_ext (op : BinOp) (t : Nat) (y' : Operand) (x y : Value) : (binStep T op t y' x y).ext := by
 unfold binStep
 split
 ·unfold shlStep; split <;> trivial
 ·unfold shrStep; split <;> trivial
 ·exact cmpStep_ext _ _ _ _ _
theorem sliceStep_ext (t : Nat) (x : Value) (lo hi mx : Option (Option Int)) : (sliceStep T t x lo hi mx).ext := by
 unfold sliceStep
 repeat' first | trivial | split
theorem indexStep_ext (t : Nat) (x i : Value) : (indexStep T t x i).ext := by
 unfold indexStep
 repeat' first | trivial | split
theorem withOnes_ext (os : List Value) (v : Value) : (withOnes os v).ext := by unfold withOnes; split <;> trivial
theorem buildStep_ext (t : Nat) (ps : List (Nat × Option Value)) : (buildStep T t ps).ext := by
 unfold buildStep
 repeat' first | trivial | exact withOnes_ext _ _ | split
theorem NewP_ext {cells : List Value} {e : Nat} {K K' : Addr -> WP} {w0 w} (hk : ∀ v w', K v w' -> Ext w0 w' -> K' v w') (h : Ext w0 w) (k : NewP cells e K w) : NewP cells e K' w := hk _ _ k (h.alloc _)
theorem NewS_ext {cells : List Value} {e m : Nat} {K K' : Sl -> WP} {w0 w} (hk : ∀ v w', K v w' -> Ext w0 w' -> K' v w') (h : Ext w0 w) (k : NewS cells e m K w) : NewS cells e m K' w := hk _ _ k (h.alloc _)
theorem MakeP_ext {s : SI} {l c : Int} {K K' : Sl -> WP} {w0 w} (hk : ∀ v w', K v w' -> Ext w0 w' -> K' v w') (h : Ext w0 w) (k : MakeP s l c K w) : MakeP s l c K' w := ⟨k.1, hk _ _ k.2 (h.alloc _)⟩
theorem BytesP_ext {e : Nat} {s : ByteArray} {K K' : Sl -> WP} {w0 w} (hk : ∀ v w', K v w' -> Ext w0 w' -> K' v w') (h : Ext w0 w) (k : BytesP e s K w) : BytesP e s K' w := fun c hc => hk _ _ (k c hc) (h.alloc _).drew
theorem Ext.stS {w0 w} (h : Ext w0 w) (a : Option Addr) (i : Nat) (vs : List Value) : Ext w0 (stS w a i vs) := by
 cases a with
 | none => exact h
 | some a => exact Ext.setL h
theorem AppP_ext {s : SI} {d x : Sl} {K K' : Sl -> WP} {w0 w} (hk : ∀ v w', K v w' -> Ext w0 w' -> K' v w') (h : Ext w0 w) (k : AppP s d x K w) : AppP s d x K' w := by
 obtain ⟨new, h1, h2, h3⟩ := k
 refine ⟨new, h1, fun hc => ⟨(h2 hc).1, hk _ _ (h2 hc).2 (h.stS _ _ _)⟩, fun hc => ?_⟩
 obtain ⟨a, b, old, ho, hr⟩ := h3 hc
 exact ⟨a, b, old, ho, fun c hc => hk _ _ (hr c hc) (h.alloc _).drew⟩
theorem CopyP_ext {s : SI} {d x : Sl} {K K' : Int -> WP} {w0 w} (hk : ∀ v w', K v w' -> Ext w0 w' -> K' v w') (h : Ext w0 w) (k : CopyP s d x K w) : CopyP s d x K' w := by
 obtain ⟨vs, h1, h2, h3⟩ := k
 exact ⟨vs, h1, h2, hk _ _ h3 (h.stS _ _ _)⟩
theorem StT_ext {ty : Ty} {a : Addr} {v : Value} {K K' : WP} {w0 w} (hk : ∀ w', K w' -> Ext w0 w' -> K' w') (h : Ext w0 w) (k : StT ty a v K w) : StT ty a v K' w := by
 cases ty with
 | one s => exact ⟨k.1, k.2.1, k.2.2.1, hk _ k.2.2.2 (h.setCell _ _)⟩
 | agg l =>
  cases v <;> simp only [StT] at k |-
  rename_i vs
  cases hb : Nat.beq vs.toList.length l.length with
  | false => rw [hb] at k; exact k.elim
  | true => rw [hb] at k; exact ⟨k.1, hk _ k.2 (Ext.setL h)⟩
theorem slOf_ext {K K' : Value -> WP} {w0} (hk : ∀ v w', K v w' -> Ext w0 w' -> K' v w') : ∀ v w', slOf K v w' -> Ext w0 w' -> slOf K' v w' := fun _ _ => hk _ _
theorem ptrOf_ext {K K' : Value -> WP} {w0} (hk : ∀ v w', K v w' -> Ext w0 w' -> K' v w') : ∀ v w', ptrOf K v w' -> Ext w0 w' -> ptrOf K' v w' := fun _ _ => hk _ _
theorem buildSliceStep_ext (t len : Nat) (ps : List (Nat × Option Value)) : (buildSliceStep T t len ps).ext := by
 unfold buildSliceStep
 split
 ·split
  ·rename_i s _ ty _
   cases Nat.ble (len * ty.size) 1000
   ·trivial
   ·simp only [cond_true]
    split
    ·exact fun K K' w0 w hk h k => NewS_ext (slOf_ext hk) h k
    ·exact fun K K' w0 w hk h k => ⟨k.1, NewS_ext (slOf_ext hk) h k.2⟩
    ·trivial
  ·trivial
 ·trivial
theorem allocStep_ext (t : Nat) : (allocStep T t).ext := by
 unfold allocStep
 split
 ·exact fun K K' w0 w hk h k => NewP_ext (ptrOf_ext hk) h k
 ·trivial
theorem boxStep_ext (t : Nat) (v : Value) : (boxStep T t v).ext := by
 unfold boxStep
 split
 ·rename_i ty _
  cases isVeiled ty
  ·exact fun K K' w0 w hk h k => NewP_ext (ptrOf_ext hk) h k
  ·trivial
 ·trivial
theorem callStep_ext (e : Env) (c : Call) (t : Nat) : (callStep P T e c t).ext := by
 unfold callStep
 split
 ·trivial
 split
 ·split
  ·exact fun K K' w0 w hk h k => upon_mono k fun _ _ ⟨e, x, hx, hk'⟩ => ⟨e, x, hx, hk _ _ hk' (h.trans e)⟩
  ·trivial
 ·split
  ·exact fun K K' w0 w hk h k => upon_mono k fun _ _ ⟨e, x, hx, hk'⟩ => ⟨e, x, hx, hk _ _ hk' (h.trans e)⟩
  ·trivial
 ·split
  ·exact fun K K' w0 w hk h k => upon_mono k fun _ _ ⟨e, x, hx, hk'⟩ => ⟨e, x, hx, hk _ _ hk' (h.trans e)⟩
  ·trivial
 ·split
  ·repeat' first | trivial | split
  ·repeat' first | trivial | split
  ·split
   ·split
    ·exact fun K K' w0 w hk h k => AppP_ext (slOf_ext hk) h k
    ·trivial
   ·trivial
  ·split
   ·split
    ·exact fun K K' w0 w hk h k => CopyP_ext (fun x => hk _) h k
    ·trivial
   ·trivial
  ·trivial
theorem convStep_ext (s d : Nat) (x : Value) : (convStep T s d x).ext := by
 unfold convStep
 split
 ·split
  ·split
   ·unfold convInt; split <;> trivial
   ·unfold convBytes
    split
    ·split
     ·rename_i si _
      cases isByte T si.e
      ·trivial
      ·exact fun K K' w0 w hk h k => BytesP_ext (slOf_ext hk) h k
     ·trivial
    ·trivial
   ·unfold convStr
    split
    ·split
     ·rename_i si _
      cases isByte T si.e <;> trivial
     ·trivial
    ·trivial
   ·trivial
  ·trivial
 ·trivial
theorem stepOf_ext (e : Env) (o : Oper) : (stepOf P T e o).ext := by
 unfold stepOf
 split
 ·exact optv_ext _
 ·exact optv_ext _
 ·split
  ·exact optv_ext _
  ·trivial
 ·repeat' first | trivial | split
 ·split
  ·split
   ·rename_i ty _
    cases Nat.beq ty.size 0 <;> trivial
   ·trivial
  ·trivial
 ·split
  ·split
   ·exact optv_ext _
   ·trivial
   ·trivial
  ·trivial
 ·repeat' first | trivial | split
 ·split
  ·exact fun K K' w0 w hk h k => StT_ext (hk _) h k
  ·trivial
 ·split
  ·exact binStep_ext _ _ _ _ _
  ·trivial
 ·repeat' first | trivial | split
 ·split
  ·exact convStep_ext _ _ _
  ·trivial
 ·repeat' first | trivial | split
 ·repeat' first | trivial | split
 ·split
  ·exact fun K K' w0 w hk h k => MakeP_ext (slOf_ext hk) h k
  ·trivial
 ·split
  ·exact sliceStep_ext _ _ _ _ _
  ·trivial
 ·split
  ·exact indexStep_ext _ _ _
  ·trivial
 ·split
  ·exact optv_ext _
  ·trivial
 ·exact buildStep_ext _ _
 ·exact buildSliceStep_ext _ _ _
 ·exact allocStep_ext _
 ·split
  ·exact boxStep_ext _ _
  ·trivial
 ·exact callStep_ext _ _ _
 ·trivial
theorem Ld_ext {t : Ty} {p : Addr} {K K' : t.den -> WP} {w} (hk : ∀ x, K x w -> K' x w) (k : Ld t p K w) : Ld t p K' w := by
 cases t <;> exact k.imp fun x h => ⟨h.1, hk _ h.2⟩
theorem doQuiet_ext {s : Step} {K K' : Value -> Option (WP) -> WP} {w} (hk : ∀ v o, K v o w -> K' v o w) (k : doQuiet s K w) : doQuiet s K' w := by
 cases s with
 | val v => exact hk _ _ k
 | req c v => exact ⟨k.1, hk _ _ k.2⟩
 | nil p => exact k.imp fun b h => ⟨h.1, hk _ _ h.2⟩
 | ix c p f => exact ⟨k.1, k.2.imp fun b h => ⟨h.1, hk _ _ h.2⟩⟩
 | ld p t => exact Ld_ext (fun x => hk _ _) k
 | rd p n => exact k.imp fun b h => ⟨h.1, hk _ _ h.2⟩
 | loud M => exact k
 | bad => exact k
theorem doStep_ext {s : Step} (hs : s.ext) {K K' : Value -> WP} {w0 w} (hk : ∀ v w', K v w' -> Ext w0 w' -> K' v w') (h : Ext w0 w) (k : doStep s K w) : doStep s K' w := by
 cases s with
 | loud M => exact hs K K' w0 w hk h k
 | val v => exact hk _ _ k h
 | req c v => exact ⟨k.1, hk _ _ k.2 h⟩
 | nil p => exact Exists.imp (fun b hh => ⟨hh.1, hk _ _ hh.2 h⟩) k
 | ix c p f => exact ⟨k.1, Exists.imp (fun b hh => ⟨hh.1, hk _ _ hh.2 h⟩) k.2⟩
 | ld p t => exact Ld_ext (fun x hx => hk _ _ hx h) k
 | rd p n => exact Exists.imp (fun b hh => ⟨hh.1, hk _ _ hh.2 h⟩) k
 | bad => exact k
theorem guardIte_ext {ops : List Oper} {e : Env} {o : Oper} {A B A' B' : Env -> WP} {w} (ha : ∀ e, A e w -> A' e w) (hb : ∀ e, B e w -> B' e w) (k : guardIte ops e o A B w) : guardIte ops e o A' B' w := by
 cases hg : o.guard with
 | none => simp only [guardIte, hg] at k |-; exact ha _ k
 | some p =>
  obtain ⟨g, want⟩ := p
  cases hd : dstOf ops g with
  | none => simp only [guardIte, hg, hd] at k
  | some d =>
   cases hv : e.get d with
   | none => simp only [guardIte, hg, hd, hv] at k
   | some v =>
    cases v <;> simp only [guardIte, hg, hd, hv] at k |- <;> first | exact hb _ k | skip
    split
    ·rename_i hbw
     rw [if_pos hbw] at k; exact ha _ k
    ·rename_i hbw
     rw [if_neg hbw] at k; exact hb _ k
theorem trSeq_ext {ops : List Oper} {K K' : Env -> WP} {w0} (hk : ∀ e w', K e w' -> Ext w0 w' -> K' e w') : ∀ (l : List Oper) (e : Env) (w : World), Ext w0 w -> trSeq P T n ops l e K w -> trSeq P T n ops l e K' w
 | [], e, w, h, k => hk e w k h
 | o :: rest, e, w, h, k => guardIte_ext (fun e k => doStep_ext (stepOf_ext e o) (fun v w' k h => trSeq_ext hk rest _ _ h k) h k) (fun e k => trSeq_ext hk rest _ _ h k) k
theorem stabL_ext {p q : WP} {w} (h : p w -> q w) : ∀ (fl : Fl), stabL fl p w -> stabL fl q w
 | [], k => h k
 | _ :: r, k => ⟨k.1, stabL_ext h r k.2⟩
theorem conjL_ext {α : Type} {f g : α -> WP} {w} (h : ∀ x, f x w -> g x w) : ∀ (l : List α), conjL (l.map f) w -> conjL (l.map g) w
 | [], k => k
 | [x], k => h x k
 | x :: y :: r, k => ⟨h x k.1, conjL_ext h (y :: r) k.2⟩
theorem trDraw_ext {ops : List Oper} {ms : List Nat} {K K' : Env -> WP} {w0} (hk : ∀ e w', K e w' -> Ext w0 w' -> K' e w') : ∀ (f m : Nat) (e : Env) (fl : Fl) (w : World), Ext w0 w -> trDraw P T n ops ms K f m e fl w -> trDraw P T n ops ms K' f m e fl w
 | 0, m, e, fl, w, h, k => hk e w k h
 | f + 1, m, e, fl, w, h, k => by
  cases hj : nexts ms m ops 0 with
  | nil => simp only [trDraw, hj] at k |-; exact hk e w k h
  | cons y js =>
   cases hq : firstQuiet T (y :: js) with
   | some jo =>
    obtain ⟨j, o⟩ := jo
    simp only [trDraw, hj, hq] at k |-
    exact guardIte_ext (fun e k => doQuiet_ext (fun v oh k => trDraw_ext hk f _ _ _ _ h k) k) (fun e k => trDraw_ext hk f _ _ _ _ h k) k
   | none =>
    simp only [trDraw, hj, hq] at k |-
    refine conjL_ext (fun jo k => guardIte_ext (fun e k => ?_) (fun e k => trDraw_ext hk f _ _ _ _ h k) k) _ k
    have hs := stepOf_ext (P := P) (T := T) e jo.2
    cases hM : stepOf P T e jo.2 with
    | loud M =>
     rw [hM] at hs
     simp only [hM] at k |-
     exact hs _ _ w0 w (fun v w' k h => stabL_ext (fun k => trDraw_ext hk f _ _ _ _ h k) _ k) h k
    | _ => simp only [hM] at k
theorem S.dec_ext {s : S} {v : Value} {K K' : s.den -> Prop} (hk : ∀ x, K x -> K' x) (k : s.dec v K) : s.dec v K' := by
 cases s <;> cases v <;> simp only [S.dec] at k |- <;> first
  | exact k.elim
  | exact hk _ k
  | (rename_i p; cases p <;> simp only [S.dec] at k |-; exact hk _ k)
  | (split at k <;> rename_i e <;> first | (rw [if_pos e]; exact hk _ k) | exact k.elim)
  | exact Exists.imp (fun _ h => ⟨h.1, hk _ h.2⟩) k
theorem decs_ext : ∀ {l : List S} {vs : List Value} {K K' : dens l -> Prop}, (∀ x, K x -> K' x) -> decs l vs K -> decs l vs K'
 | [], vs, K, K', hk, h => by cases vs <;> simp only [decs] at h |-; exact hk _ h
 | [s], vs, K, K', hk, h => by
  rcases vs with _ | ⟨v, _ | ⟨u, r⟩⟩ <;> simp only [decs] at h |-
  exact S.dec_ext hk h
 | s :: t :: l, vs, K, K', hk, h => by
  rcases vs with _ | ⟨v, r⟩ <;> simp only [decs] at h |-
  exact S.dec_ext (fun x hx => decs_ext (fun y => hk _) hx) h
theorem Ty.dec_ext {t : Ty} {v : Value} {K K' : t.den -> Prop} (hk : ∀ x, K x -> K' x) (k : t.dec v K) : t.dec v K' := by
 cases t with
 | one s => exact S.dec_ext hk k
 | agg l =>
  cases v <;> simp only [Ty.dec] at k |-
  exact decs_ext hk k
theorem tdecs_ext : ∀ {l : List Ty} {vs : List (Option Value)} {K K' : tden l -> Prop}, (∀ x, K x -> K' x) -> tdecs l vs K -> tdecs l vs K'
 | [], vs, K, K', hk, h => by cases vs <;> simp only [tdecs] at h |-; exact hk _ h
 | [s], vs, K, K', hk, h => by
  rcases vs with _ | ⟨_ | v, _ | ⟨u, r⟩⟩ <;> simp only [tdecs] at h |-
  exact Ty.dec_ext hk h
 | s :: t :: l, vs, K, K', hk, h => by
  rcases vs with _ | ⟨_ | v, r⟩ <;> simp only [tdecs] at h |-
  exact Ty.dec_ext (fun x hx => tdecs_ext (fun y => hk _) hx) h
theorem seqK_ext {K K' : EK} {k k' : Env -> WP} {w0} (hk : ∀ ex e w', K ex e w' -> Ext w0 w' -> K' ex e w') (hk2 : ∀ e w', k e w' -> Ext w0 w' -> k' e w') : ∀ ex e w', seqK K k ex e w' -> Ext w0 w' -> seqK K' k' ex e w' := by
 intro ex e w' h he
 cases ex <;> simp only [seqK] at h |- <;> first | exact hk2 _ _ h he | exact hk _ _ _ h he | exact h.elim
theorem tr_ext {w0} : ∀ (an : Ann) (c : Code) (e : Env) (K K' : EK) (w : World), (∀ ex e w', K ex e w' -> Ext w0 w' -> K' ex e w') -> Ext w0 w -> tr P T n an c e K w -> tr P T n an c e K' w
 | .leaf, c, e, K, K', w, hk, h, k => by
  cases c <;> simp only [tr] at k |- <;> first | exact hk _ _ _ k h | exact k.elim | skip
  rename_i id ops draw
  cases draw
  ·exact trSeq_ext (fun e w' => hk _ e w') _ _ _ h k
  ·exact trDraw_ext (fun e w' => hk _ e w') _ _ _ _ _ h.drew k
 | .seq a b, c, e, K, K', w, hk, h, k => by
  cases c <;> simp only [tr] at k |- <;> first | exact k.elim | skip
  exact tr_ext a _ _ _ _ _ (seqK_ext hk fun e w' k h => tr_ext b _ _ _ _ _ hk h k) h k
 | .cond a b, c, e, K, K', w, hk, h, k => by
  cases c <;> simp only [tr] at k |- <;> first | exact k.elim | skip
  rename_i c x y
  cases hv : e.ev c with
  | none => simp only [hv] at k
  | some v =>
   cases v <;> simp only [hv] at k |-
   split
   ·rename_i htt
    rw [if_pos htt] at k; exact tr_ext a _ _ _ _ _ hk h k
   ·rename_i htt
    rw [if_neg htt] at k; exact tr_ext b _ _ _ _ _ hk h k
 | .block a, c, e, K, K', w, hk, h, k => by
  cases c <;> simp only [tr] at k |- <;> first | exact k.elim | skip
  rename_i id x
  refine tr_ext a _ _ _ _ _ (fun ex e w' hb he => ?_) h k
  cases ex <;> simp only [blockK] at hb |- <;> first | exact hk _ _ _ hb he | exact hb.elim | skip
  rename_i id'
  cases hq : Nat.beq id' id <;> rw [hq] at hb <;> exact hk _ _ _ hb he
 | .loop slots a, c, e, K, K', w, hk, h, k => by
  cases c <;> simp only [tr] at k |- <;> first | exact k.elim | skip
  rename_i x
  refine tdecs_ext (fun s0 k => ?_) k
  obtain ⟨I, ⟨m, hm⟩, hI⟩ := k
  refine ⟨fun m y w => I m y w /\ Ext w0 w, ⟨m, hm, h⟩, fun m y w ⟨h1, h2⟩ => ?_⟩
  refine tr_ext a _ _ _ _ _ (seqK_ext hk fun e w' k he => tdecs_ext (fun s' k => ?_) k) h2 (hI m y w h1)
  obtain ⟨m', hm', hi⟩ := k
  exact ⟨m', hm', hi, he⟩
 | .join slots a, c, e, K, K', w, hk, h, k => by
  simp only [tr] at k |-
  obtain ⟨J, hJ, hb⟩ := k
  refine ⟨fun x w => J x w /\ Ext w0 w, fun x w ⟨h1, h2⟩ => hk _ _ _ (hJ x w h1) h2, ?_⟩
  exact tr_ext a _ _ _ _ _ (seqK_ext hk fun e w' k he => tdecs_ext (fun s' k => ⟨k, he⟩) k) h hb
theorem resP_ext {e : Env} {w} : ∀ (rs : List ResultVar) {k k' : List (Option Value) -> WP}, (∀ vs, k vs w -> k' vs w) -> resP T e rs k w -> resP T e rs k' w
 | [], k, k', hk, h => hk _ h
 | .tmp t :: r, k, k', hk, h => by
  simp only [resP] at h |-
  cases hg : e.get t with
  | none => rw [hg] at h; exact h.elim
  | some v => rw [hg] at h; exact resP_ext r (fun vs => hk _) h
 | .cell x t :: r, k, k', hk, h => by
  cases hg : e.get x with
  | none => simp only [resP, hg] at h
  | some v =>
   cases v with
   | pointer p =>
    cases p with
    | none => simp only [resP, hg] at h
    | some p =>
     cases ht : T.ty t with
     | none => simp only [resP, hg, ht] at h
     | some ty =>
      simp only [resP, hg, ht] at h |-
      exact Ld_ext (fun y hy => resP_ext r (fun vs => hk _) hy) h
   | _ => simp only [resP, hg] at h
theorem trF_ext {fn : Func} {an : Ann} {args : List Value} {R : List Ty} {K : tden R -> WP} {w} (h : trF P T fn an args R K w) : trF P T fn an args R (fun x w' => K x w' /\ Ext w w') w := by
 cases hc : fn.body with
 | none => simp only [trF, hc] at h
 | some c =>
  simp only [trF, hc] at h |-
  refine tr_ext (w0 := w) an c _ _ _ _ (fun ex e w' k he => ?_) (Ext.refl w) h
  cases ex <;> simp only [finK] at k |- <;> first | exact k.elim | exact resP_ext _ (fun vs k => tdecs_ext (fun x k => ⟨k, he⟩) k) k
def okF (fn : Func) (k : Nat) : Bool := (match fn.body with | some c => codeOk c | none => false) && !(fn.name == "runtime.NumGoroutine") && Nat.ble k fn.ntmps
theorem calls_of_trF (hC : Ctx P T) (hm : P.follows .mixedOrders = true) {f : Nat} {fn : Func} (hf : P.funcs[f]? = some fn) (an : Ann) {args : List Value} (hok : okF fn args.length = true) {R : List Ty} {K : tden R -> WP} {w} (h : trF P T fn an args R K w) :
  Calls P f args.toArray w (RetP R fun x w' => K x w' /\ Ext w w') := by
 simp only [okF, Bool.and_eq_true] at hok
 cases hb : fn.body with
 | none => rw [hb] at hok; exact nomatch hok.1.1
 | some c =>
  rw [hb] at hok
  exact calls_of_tr hC hm hf hb hok.1.1 an (Nat.le_of_ble_eq_true hok.2) (trF_ext h)
theorem callF_of {f : Nat} {fn : Func} (hf : P.funcs[f]? = some fn) (hb : fn.body.isSome = true) (hnm : (fn.name == "runtime.NumGoroutine") = false) {args : List Value} {R : List Ty} {K : tden R -> WP} {w}
  (h : Calls P f args.toArray w (RetP R fun x w' => K x w' /\ Ext w w')) : CallF P f args R K w := by
 unfold CallF
 have hn : fn.body.isNone = false := by cases hb' : fn.body <;> simp_all
 have e : (callFunc f args.toArray).run P w = .ok (.enter f args.toArray) w := by
  simp only [callFunc, Sem.run_bind, run_program, Result.andThen_ok, hf, hnm, hn]
  rfl
 rw [e]
 refine Calls.mono h fun e w' he => ?_
 cases e with
 | returned v =>
  obtain ⟨x, hx, hk, he⟩ := he
  exact ⟨he, x, hx, hk⟩
 | _ => exact he
theorem callF_of_trF (hC : Ctx P T) (hm : P.follows .mixedOrders = true) {f : Nat} {fn : Func} (hf : P.funcs[f]? = some fn) (an : Ann) {args : List Value} (hok : okF fn args.length = true) {R : List Ty} {K : tden R -> WP} {w} (h : trF P T fn an args R K w) :
  CallF P f args R K w := by
 have hc := calls_of_trF hC hm hf an hok h
 simp only [okF, Bool.and_eq_true, Bool.not_eq_true'] at hok
 exact callF_of hf (by cases hb : fn.body with | none => rw [hb] at hok; exact nomatch hok.1.1 | some c => rfl) hok.1.2 hc
end
end Go.Tr
