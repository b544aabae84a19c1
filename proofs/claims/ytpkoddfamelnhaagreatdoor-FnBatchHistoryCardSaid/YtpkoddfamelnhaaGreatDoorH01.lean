/- Part 1 of the proof of fnBatchHistory_card. Conditions: none. -/
import Derived.Test.YtpkoddfamelnhaaGreatDoorH00
import Derived.WideLaws
import Derived.WalkSpells
import Derived.Lib.LazyBuf
set_option linter.unusedVariables false
set_option linter.unusedSimpArgs false
namespace Go.Tr
def uponV (P:Program)(r:Result Next)(K:Value->WP):Prop:=
 match r with
 | .ok (.value v) w=>K v w
 | .ok .skip w=>K undef w
 | .ok (.enter f args) w=>Calls P f args w fun e w'=>match e with| .returned v=>K v w'|_=>False
 | .ok (.row row args) w=>Rows P row args w K
 |_=>False
def Step.ok (P:Program)(o:Oper)(a:Act):Step->Prop
 | .val v=> ∀w,(execOp a.eval o).run P w= .ok (.value v) w
 | .req c v=>c-> ∀w,(execOp a.eval o).run P w= .ok (.value v) w
 | .nil p=> ∀b,p=some b-> ∀w,(execOp a.eval o).run P w= .ok (.value (.pointer (some b))) w
 | .ix c p f=>c-> ∀b,p=some b-> ∀w,(execOp a.eval o).run P w= .ok (.value (f b)) w
 | .ld p t=> ∀x w,LdAt t p x w->(execOp a.eval o).run P w= .ok (.value (t.enc x)) w
 | .rd p n=> ∀s w,RdB w p n s->(execOp a.eval o).run P w= .ok (.value (.string s)) w
 | .loud M=> ∀K w,M K w->uponV P ((execOp a.eval o).run P w) K
 | .bad=>True
section
variable {P : Program} {T : Tab} {n : Nat} {e : Env} {a : Act}
theorem optv_ok {o:Oper}{x:Option Value}(h: ∀v,x=some v-> ∀w,(execOp a.eval o).run P w= .ok (.value v) w):Step.ok P o a (optv x):=by
 cases x with
 |none=>trivial
 |some v=>exact h v rfl
theorem td_sc {t:Nat}{s:S}(hT:T.ok P)(h:look T.td t=some (.sc s)): ∃d,P.underlying t=some d/\kindOf d=some s:=by
 have:=(hT.td _ (look_mem h)).1
 cases hu:P.underlying t with
 |none=>simp[hu]at this
 |some d=>exact⟨d,rfl,by simpa [hu]using this⟩
theorem kind_ptr {d:TypeDesc}(h:kindOf d=some .ptr): ∃e,d= .pointer e:=by cases d<;>simp_all [kindOf]
theorem kind_sl {d:TypeDesc}(h:kindOf d=some .sl): ∃e,d= .slice e:=by cases d<;>simp_all [kindOf]
theorem kind_ifc {d:TypeDesc}(h:kindOf d=some .ifc): ∃e,d= .interface e:=by cases d<;>simp_all [kindOf]
theorem kind_int {d:TypeDesc}{k:IntKind}(h:kindOf d=some (.int k)):d= .int k:=by cases d<;>simp_all [kindOf]
theorem kind_str {d:TypeDesc}(h:kindOf d=some .str):d= .string:=by cases d<;>simp_all [kindOf]
theorem run_ite_same {α:Type}{c:Prop}[Decidable c]{x y:Sem α}{w}{r:Result α}(hx:x.run P w=r)(hy:y.run P w=r):(if c then x else y).run P w=r:=by
 by_cases h:c
 ·rw[if_pos h];exact hx
 ·rw[if_neg h];exact hy
theorem eqGuard_no {op:BinOp}(t:Nat)(x y:Operand)(u v:Value)(hne: ¬(u= .nilIface/\v= .nilIface))(hag: ∀xs ys,¬(u= .agg xs/\v= .agg ys))(w:World):
  (eqGuard op t x y u v).run P w= .ok () w:=by
 unfold eqGuard
 refine run_ite_same rfl ?_
 cases u<;>first|rfl|skip
 ·cases v<;>first|rfl|exact absurd ⟨rfl,rfl⟩ hne
 ·cases v<;>first|rfl|exact absurd ⟨rfl,rfl⟩ (hag _ _)
theorem eqGuard_nil {op:BinOp}(t:Nat)(x:Operand)(c:Value)(u:Value)(w:World):
  (eqGuard op t x (.const c) u .nilIface).run P w= .ok () w:=by
 unfold eqGuard
 refine run_ite_same rfl ?_
 cases u<;>first|rfl|skip
 simp
def Step.okV (P:Program)(f:Sem Value):Step->Prop
 | .val v=> ∀w,f.run P w= .ok v w
 | .req c v=>c-> ∀w,f.run P w= .ok v w
 | .nil p=> ∀b,p=some b-> ∀w,f.run P w= .ok (.pointer (some b)) w
 | .ix c p g=>c-> ∀b,p=some b-> ∀w,f.run P w= .ok (g b) w
 | .ld p t=> ∀x w,LdAt t p x w->f.run P w= .ok (t.enc x) w
 | .rd p n=> ∀s w,RdB w p n s->f.run P w= .ok (.string s) w
 | .loud M=> ∀K w,M K w-> ∃v w',f.run P w= .ok v w'/\K v w'
 | .bad=>True
theorem Step.ok_of_okV {o:Oper}{f:Sem Value}{s:Step}(ho:execOp a.eval o=(do pure (.value (<-f))))(h:Step.okV P f s):Step.ok P o a s:=by
 cases s with
 |val v=>intro w;rw[ho];simp[h w]
 |req c v=>intro hc w;rw[ho];simp[h hc w]
 |nil p=>intro b hb w;rw[ho];simp[h b hb w]
 |ix c p g=>intro hc b hb w;rw[ho];simp[h hc b hb w]
 |ld p t=>intro x w hx;rw[ho];simp[h x w hx]
 |rd p n=>intro s w hs;rw[ho];simp[h s w hs]
 |loud M=>
  intro K w hm
  obtain⟨v,w',hr,hk⟩:=h K w hm
  rw[ho]
  simp only[Sem.run_bind,hr,Result.andThen_ok,Sem.run_pure,uponV]
  exact hk
 |bad=>trivial
theorem okV_guard {f:Sem Value}{g:Sem Unit}{s:Step}(hg: ∀w,g.run P w= .ok () w)(h:Step.okV P f s):Step.okV P (do g;f) s:=by
 cases s with
 |val v=>intro w;simp[hg,h w]
 |req c v=>intro hc w;simp[hg,h hc w]
 |nil p=>intro b hb w;simp[hg,h b hb w]
 |ix c p g=>intro hc b hb w;simp[hg,h hc b hb w]
 |ld p t=>intro x w hx;simp[hg,h x w hx]
 |rd p n=>intro s w hs;simp[hg,h s w hs]
 |loud M=>intro K w hm;obtain⟨v,w',hr,hk⟩:=h K w hm;exact⟨v,w',by simp[hg,hr],hk⟩
 |bad=>trivial
theorem okV_intOp (op:BinOp)(t:Nat)(k:IntKind)(x y:Int)(h1:op≠ .shl)(h2:op≠ .shr):Step.okV P (binOp op t (.int k x) (.int k y)) (intOp op k x y):=by
 cases op<;>simp only[intOp,Step.okV]<;>first|trivial|(intros;simp_all [binOp,Op.intArith,Op.intDiv,Op.intBits,Op.intCmp];done)
theorem okV_strOp (op:BinOp)(t:Nat)(x y:ByteArray)(h1:op≠ .shl)(h2:op≠ .shr):Step.okV P (binOp op t (.string x) (.string y)) (strOp op x y):=by
 cases op<;>simp only[strOp,Step.okV]<;>first|trivial|(intros;simp_all [binOp,Op.stringOp];done)
def EqOk (P:Program)(T:Tab):Prop:= ∀t l fs xs ys,look T.td t=some (.st l fs)->hasNat T.eq t=true->fits l xs=true->fits l ys=true-> ∀x y w,
 (do eqGuard .neq t x y (.agg xs.toArray) (.agg ys.toArray);binOp .neq t (.agg xs.toArray) (.agg ys.toArray)).run P w= .ok (.bool (!(eqCells l xs ys))) w
theorem bif_bad {o:Sem Value}{b:Bool}{s:Step}(h:b=true->Step.okV P o s):Step.okV P o (bif b then s else .bad):=by
 cases b with
 |true=>exact h rfl
 |false=>trivial
theorem okV_bin (hT:T.ok P)(hE:EqOk P T)(op:BinOp)(t:Nat)(x y:Operand)(u v:Value)(hv: ∀c,y= .const c->v=c):
  Step.okV P (do eqGuard op t x y u v;binOp op t u v) (binStep T op t y u v):=by
 by_cases h1:op= .shl
 ·subst h1
  show Step.okV P _ (shlStep u v)
  unfold shlStep
  split<;>first|trivial|skip
  intro hb w
  simp[eqGuard,binOp,Op.shift,show¬_<(0:Int)from Int.not_lt.2 hb]
 by_cases h2:op= .shr
 ·subst h2
  show Step.okV P _ (shrStep u v)
  unfold shrStep
  split<;>first|trivial|skip
  intro hb w
  simp[eqGuard,binOp,Op.shift,show¬_<(0:Int)from Int.not_lt.2 hb]
 have e:binStep T op t y u v=cmpStep T op t y u v:=by unfold binStep;split<;>first|rfl|contradiction
 rw[e]
 unfold cmpStep
 split
 ·rename_i s hl
  obtain⟨d,hd,hk⟩:=td_sc hT hl
  split
  ·obtain⟨el,rfl⟩:=kind_ptr hk
   unfold ptrCmp
   split<;>first|trivial|skip
   rename_i p
   unfold eqnStep
   split<;>first|trivial|skip
   ·exact okV_guard (fun w=>eqGuard_no _ _ _ _ _ (by simp) (by simp) w) (fun w=>run_eql_pointer_nil w t p (by simp[Program.pointee,hd]))
   ·exact okV_guard (fun w=>eqGuard_no _ _ _ _ _ (by simp) (by simp) w) (fun w=>run_neq_pointer_nil w t p (by simp[Program.pointee,hd]))
  ·obtain⟨el,rfl⟩:=kind_sl hk
   unfold slCmp
   split<;>first|trivial|skip
   rename_i p _ _ _ _
   unfold eqnStep
   split<;>first|trivial|skip
   ·exact okV_guard (fun w=>eqGuard_no _ _ _ _ _ (by simp) (by simp) w) (fun w=>Lib.run_eql_slice_nil w t el p _ _ _ _ hd)
   ·exact okV_guard (fun w=>eqGuard_no _ _ _ _ _ (by simp) (by simp) w) (fun w=>run_neq_slice_nil_any w t el p _ _ _ _ hd)
  ·obtain⟨ms,rfl⟩:=kind_ifc hk
   unfold ifcCmp
   split<;>first|trivial|skip
   obtain rfl:=hv _ rfl
   split<;>first|trivial|skip
   ·rintro⟨i,rfl⟩ w
    have hm:P.underlying t=some (.interface (P.methodsAt t)):=by simp[Program.methodsAt,hd]
    rw[Sem.run_bind,eqGuard_nil,Result.andThen_ok]
    cases i with
    |nil=>exact run_eql_nil_nil w t hm
    |mk u v=>exact run_eql_held_nil w t u v hm
   ·rintro⟨i,rfl⟩ w
    have hm:P.underlying t=some (.interface (P.methodsAt t)):=by simp[Program.methodsAt,hd]
    rw[Sem.run_bind,eqGuard_nil,Result.andThen_ok]
    cases i with
    |nil=>exact run_neq_nil_nil w t hm
    |mk u v=>exact run_neq_held_nil w t u v hm
  ·unfold scCmp
   split<;>first|trivial|skip
   ·split
    ·rename_i e
     subst e
     exact okV_guard (fun w=>eqGuard_no _ _ _ _ _ (by simp) (by simp) w) (okV_intOp op t _ _ _ h1 h2)
    ·trivial
   ·exact okV_guard (fun w=>eqGuard_no _ _ _ _ _ (by simp) (by simp) w) (okV_strOp op t _ _ h1 h2)
 ·rename_i hl
  unfold stCmp
  split<;>first|trivial|skip
  rename_i xs ys
  split<;>first|trivial|skip
  refine bif_bad fun hb=>?_
  simp only[Bool.and_eq_true]at hb
  intro w
  exact hE t _ _ xs.toList ys.toList hl hb.1.1 hb.1.2 hb.2 x y w
 ·trivial
end
end Go.Tr
