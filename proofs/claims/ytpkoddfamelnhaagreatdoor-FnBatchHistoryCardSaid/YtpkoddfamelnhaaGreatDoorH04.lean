/- Part 4 of the proof of fnBatchHistory_card. Conditions: none. -/
import Derived.Test.YtpkoddfamelnhaaGreatDoorH03
import Derived.Deep.LoopGhost
set_option linter.unusedVariables false
set_option linter.unusedSimpArgs false
namespace Go.Tr
inductive Ann
 |leaf
 |seq (a b:Ann)
 |cond (a b:Ann)
 |block (a:Ann)
 |loop (slots:List (Nat×Ty)) (a:Ann)
 |join (slots:List (Nat×Ty)) (a:Ann)
def asg :Code->List Nat
 | .region _ ops _=>dsts ops.toList
 | .seq a b=>asg a++asg b
 | .cond _ a b=>asg a++asg b
 | .block _ a=>asg a
 | .loop a=>asg a
 |_=>[]
def codeOk :Code->Bool
 | .region _ ops draw=> !draw||(apOk ops.toList (befs ops.toList)&&edgesOk ops.toList)
 | .seq a b=>codeOk a&&codeOk b
 | .cond _ a b=>codeOk a&&codeOk b
 | .block _ a=>codeOk a
 | .loop a=>codeOk a
 |_=>true
def Env.drop (e:Env)(D:List Nat):Env:=e.filter fun x=> !hasNat D x.1
def tys (slots:List (Nat×Ty)):List Ty:=slots.map (·.2)
def slotEnv :(slots:List (Nat×Ty))->tden (tys slots)->Env
 | [],_=>[]
 | [s],x=>[(s.1,s.2.enc x)]
 |s::t::l,x=>(s.1,s.2.enc x.1)::slotEnv (t::l) x.2
def slotGet (slots:List (Nat×Ty))(e:Env):List (Option Value):=slots.map fun s=>e.get s.1
def Join {α:Type}(k:α->WP)(body:(α->WP)->Prop):Prop:=
 ∃J:α->WP,(∀x w,J x w->k x w)/\body J
def Loop {α:Type}(F:(α->WP)->α->WP)(x:α)(w:World):Prop:=
 ∃I:Nat->α->WP,(∃n,I n x w)/\ ∀n y w,I n y w->F (fun y' w'=> ∃m,m<n/\I m y' w') y w
abbrev EK :=Exit->Env->WP
def seqK (K:EK)(k:Env->WP):EK:=fun ex e=>match ex with
 | .normal=>k e
 | .exit id=>K (.exit id) e
 | .ret=>K .ret e
 |_=>fun _=>False
def blockK (id:Nat)(K:EK):EK:=fun ex e=>match ex with
 | .normal=>K .normal e
 | .exit id'=>bif Nat.beq id' id then K .normal e else K (.exit id') e
 | .ret=>K .ret e
 |_=>fun _=>False
def tr (P : Program) (T : Tab) (n : Nat) : Ann -> Code -> Env -> EK -> WP
 | .leaf, c, e, K => match c with
  | .skip=>K .normal e
  | .region _ ops draw=>match draw with
   |false=>trSeq P T n ops.toList ops.toList e (K .normal)
   |true=>fun w=>trDraw P T n ops.toList (befs ops.toList) (K .normal) ops.toList.length 0 e [] w.drew
  | .exit id=>K (.exit id) e
  | .ret=>K .ret e
  |_=>fun _=>False
 | .seq a b,c,e,K=>match c with
  | .seq x y=>tr P T n a x e (seqK K fun e'=>tr P T n b y e' K)
  |_=>fun _=>False
 | .cond a b, c, e, K => match c with
  | .cond c x y=>match e.ev c with
   |some (.bool t)=>fun w=>if t=true then tr P T n a x e K w else tr P T n b y e K w
   |_=>fun _=>False
  |_=>fun _=>False
 | .block a,c,e,K=>match c with
  | .block id x=>tr P T n a x e (blockK id K)
  |_=>fun _=>False
 | .loop slots a,c,e,K=>match c with
  | .loop x => fun w => tdecs (tys slots) (slotGet slots e) fun s0 => Loop (fun cont s w => tr P T n a x (slotEnv slots s ++ e.drop (asg x))
    (seqK K fun e' w'=>tdecs (tys slots) (slotGet slots e') fun s'=>cont s' w') w) s0 w
  |_=>fun _=>False
 | .join slots a, c, e, K => fun w => Join (fun s w => K .normal (slotEnv slots s ++ e.drop (asg c)) w) fun J =>
   tr P T n a c e (seqK K fun e' w'=>tdecs (tys slots) (slotGet slots e') fun s'=>J s' w') w
section
variable {P : Program} {T : Tab} {n : Nat}
theorem hasNat_iff : ∀(l:List Nat) (x:Nat),hasNat l x=true↔x∈l
 | [],x=>by simp[hasNat]
 | y :: l, x => by
  simp only[hasNat,Bool.or_eq_true,hasNat_iff l x,List.mem_cons]
  constructor
  ·rintro(h|h)
   ·exact .inl (Nat.eq_of_beq_eq_true h).symm
   ·exact .inr h
  ·rintro(rfl|h)
   ·exact .inl (Nat.beq_refl _)
   ·exact .inr h
theorem get_drop (D:List Nat)(i:Nat)(v:Value): ∀(e:Env),(e.drop D).get i=some v->e.get i=some v/\i∉D:=by
 intro e
 induction e with
 |nil=>intro h;cases h
 | cons x e ih =>
  obtain⟨j,u⟩:=x
  intro h
  by_cases hj:hasNat D j=true
  ·have hd:Env.drop ((j,u)::e) D=Env.drop e D:=by simp[Env.drop,List.filter_cons,hj]
   rw[hd]at h
   obtain⟨h1,h2⟩:=ih h
   have hne: ¬j=i:=by rintro rfl;exact h2 ((hasNat_iff D j).1 hj)
   exact⟨by rw[Env.get_cons_ne e u hne];exact h1,h2⟩
  ·have hd:Env.drop ((j,u)::e) D=(j,u)::Env.drop e D:=by simp[Env.drop,List.filter_cons,hj]
   rw[hd]at h
   by_cases hji:j=i
   ·subst hji
    rw[Env.get_cons_self]at h|-
    exact⟨h,fun hm=>hj ((hasNat_iff D j).2 hm)⟩
   ·rw[Env.get_cons_ne _ u hji]at h|-
    exact ih h
theorem get_append (e e':Env)(i:Nat)(v:Value):(e++e').get i=some v->e.get i=some v\/e'.get i=some v:=by
 induction e with
 |nil=>intro h;exact .inr h
 | cons x e ih =>
  obtain⟨j,u⟩:=x
  intro h
  by_cases hji:j=i
  ·subst hji
   rw[List.cons_append,Env.get_cons_self]at h
   rw[Env.get_cons_self]
   exact .inl h
  ·rw[List.cons_append,Env.get_cons_ne _ u hji]at h
   rw[Env.get_cons_ne _ u hji]
   exact ih h
theorem slot_get : ∀(slots:List (Nat×Ty)) (s:tden (tys slots)) (e:Env),(tencs (tys slots) s).map some=slotGet slots e-> ∀i v,(slotEnv slots s).get i=some v->e.get i=some v
 | [],_,_,_,i,v,h=>by cases h
 | [x], s, e, he, i, v, h => by
  have he:[some (x.2.enc s)]=[e.get x.1]:=he
  have h:Env.get [(x.1,x.2.enc s)] i=some v:=h
  by_cases hi:x.1=i
  ·subst hi
   rw[Env.get_cons_self]at h
   rw[<-h]
   simpa using he.symm
  ·rw[Env.get_cons_ne _ _ hi]at h
   cases h
 | x :: y :: l, s, e, he, i, v, h => by
  have he:some (x.2.enc s.1)::(tencs (tys (y::l)) s.2).map some=e.get x.1::slotGet (y::l) e:=he
  have h:Env.get ((x.1,x.2.enc s.1)::slotEnv (y::l) s.2) i=some v:=h
  rw[List.cons.injEq]at he
  by_cases hi:x.1=i
  ·subst hi
   rw[Env.get_cons_self]at h
   rw[<-h]
   exact he.1.symm
  ·rw[Env.get_cons_ne _ _ hi]at h
   exact slot_get (y::l) s.2 e he.2 i v h
theorem agree_slots {slots:List (Nat×Ty)}{s:tden (tys slots)}{e e':Env}{a a':Act}{D:List Nat}(hag:Agree n e a)(hag':Agree n e' a')(hs:Same D a a')
  (hd:(tencs (tys slots) s).map some=slotGet slots e'):Agree n (slotEnv slots s++e.drop D) a':=by
 refine⟨hag'.size,hag'.defers,fun i v h=>?_⟩
 rcases get_append _ _ _ _ h with h|h
 ·exact hag'.get i v (slot_get slots s e' hd i v h)
 ·obtain⟨h1,h2⟩:=get_drop D i v e h
  rw[hs i h2]
  exact hag.get i v h1
theorem tr_sound (hC:Ctx P T)(hm:P.follows .mixedOrders=true): ∀(an:Ann) (c:Code),codeOk c=true-> ∀(e:Env) (a:Act) (w:World) (K:EK) (Q:Exit->Act->WP),Plain Q->Agree n e a->
  (∀ex e' a' w',Agree n e' a'->Same (asg c) a a'->K ex e' w'->Q ex a' w')->tr P T n an c e K w->c.wp P Q a w:=by
 intro an
 induction an with
 | leaf =>
  intro c hok e a w K Q hP hag hK h
  cases c with
  |skip=>exact wp_skip (hK _ e a w hag (Same.refl _ _) h)
  | region id ops draw =>
   cases draw with
   |false=>
    have hs:=trSeq_sound hC ops.toList (dsts ops.toList) ops.toList (fun d hd=>hd) e a w (K .normal) hag (fun e' a' w' h1 h2 h3=>hK .normal e' a' w' h1 h2 h3) h
    exact wp_region_list hs
   |true=>
    simp only[codeOk,Bool.not_true,Bool.false_or,Bool.and_eq_true]at hok
    exact region_draw_sound hC hm (id:=id) ops.toList hok.1 hok.2 hP (K .normal) hag (fun e' a' w' h1 h2 h3=>hK .normal e' a' w' h1 h2 h3) h
  |exit id=>exact wp_exit (hK _ e a w hag (Same.refl _ _) h)
  |ret=>exact wp_ret (hK _ e a w hag (Same.refl _ _) h)
  |_=>exact h.elim
 | seq an bn iha ihb =>
  intro c hok e a w K Q hP hag hK h
  cases c with
  | seq x y =>
   simp only[codeOk,Bool.and_eq_true]at hok
   refine wp_seq ?_
   refine iha x hok.1 e a w _ _ ?_ hag ?_ h
   ·intro c a w h';exact hP c a w h'
   ·intro ex e' a' w' h1 h2 h3
    have hmono:Same (asg (.seq x y)) a a':=h2.mono fun i hi=>List.mem_append_left _ hi
    cases ex with
    |normal=>exact ihb y hok.2 e' a' w' K Q hP h1 (fun ex e'' a'' w'' h4 h5 h6=>hK ex e'' a'' w'' h4 (hmono.trans (h5.mono fun i hi=>List.mem_append_right _ hi)) h6) h3
    |exit id=>exact hK _ e' a' w' h1 hmono h3
    |ret=>exact hK _ e' a' w' h1 hmono h3
    |_=>exact h3.elim
  |_=>exact h.elim
 | cond an bn iha ihb =>
  intro c hok e a w K Q hP hag hK h
  cases c with
  | cond c x y =>
   simp only[codeOk,Bool.and_eq_true]at hok
   simp only[tr]at h
   cases hc:e.ev c with
   |none=>simp only[hc]at h
   | some v =>
    simp only[hc]at h
    cases v with
    | bool t =>
     simp only at h
     have hev:=hag.ev hc
     cases t with
     |true=>
      rw[if_pos rfl]at h
      exact wp_cond_true hev (iha x hok.1 e a w K Q hP hag (fun ex e' a' w' h1 h2 h3=>hK ex e' a' w' h1 (h2.mono fun i hi=>List.mem_append_left _ hi) h3) h)
     |false=>
      rw[if_neg (by simp)]at h
      exact wp_cond_false hev (ihb y hok.2 e a w K Q hP hag (fun ex e' a' w' h1 h2 h3=>hK ex e' a' w' h1 (h2.mono fun i hi=>List.mem_append_right _ hi) h3) h)
    |_=>exact h.elim
  |_=>exact h.elim
 | block an ih =>
  intro c hok e a w K Q hP hag hK h
  cases c with
  | block id x =>
   refine wp_block ?_
   refine ih x hok e a w _ _ ?_ hag ?_ h
   ·intro c a w h';exact hP c a w h'
   ·intro ex e' a' w' h1 h2 h3
    cases ex with
    |normal=>exact hK _ e' a' w' h1 h2 h3
    | exit id' =>
     by_cases hid:id'=id
     ·subst hid
      have h3:(bif Nat.beq id' id' then K .normal e' else K (.exit id') e') w':=h3
      rw[Nat.beq_refl]at h3
      simp only[Exit.inBlock,if_true]
      exact hK _ e' a' w' h1 h2 h3
     ·have h3:(bif Nat.beq id' id then K .normal e' else K (.exit id') e') w':=h3
      rw[beq_no hid]at h3
      simp only[Exit.inBlock,hid,if_false]
      exact hK _ e' a' w' h1 h2 h3
    |ret=>exact hK _ e' a' w' h1 h2 h3
    |_=>exact h3.elim
  |_=>exact h.elim
 | loop slots an ih =>
  intro c hok e a w K Q hP hag hK h
  cases c with
  | loop x =>
   simp only[tr]at h
   obtain⟨s0,hs0,I,⟨n0,hI0⟩,hstep⟩:=tdecs_sound h
   refine wp_loop_ghost (fun k a' w'=> ∃s,I k s w'/\Same (asg x) a a'/\Agree n (slotEnv slots s++e.drop (asg x)) a') n0 ⟨s0,hI0,Same.refl _ _,agree_slots hag hag (Same.refl _ _) hs0⟩ ?_
   rintro k a' w' ⟨s,hI,hsame,hag'⟩
   refine ih x hok _ a' w' _ _ ?_ hag' ?_ (hstep k s w' hI)
   ·intro c a w h';exact hP c a w h'
   ·intro ex e' a'' w'' h1 h2 h3
    cases ex with
    |normal=>
     obtain⟨s',hs',m,hm,hI'⟩:=tdecs_sound h3
     exact⟨m,hm,s',hI',hsame.trans h2,agree_slots hag h1 (hsame.trans h2) hs'⟩
    |exit id=>exact hK _ e' a'' w'' h1 (hsame.trans h2) h3
    |ret=>exact hK _ e' a'' w'' h1 (hsame.trans h2) h3
    |_=>exact h3.elim
  |_=>exact h.elim
 | join slots an ih =>
  intro c hok e a w K Q hP hag hK h
  obtain⟨J,hJ,h⟩:=h
  refine ih c hok e a w _ Q hP hag ?_ h
  intro ex e' a' w' h1 h2 h3
  cases ex with
  |normal=>
   obtain⟨s,hs,hj⟩:=tdecs_sound h3
   exact hK .normal _ a' w' (agree_slots hag h1 h2 hs) h2 (hJ s w' hj)
  |exit id=>exact hK _ e' a' w' h1 h2 h3
  |ret=>exact hK _ e' a' w' h1 h2 h3
  |_=>exact h3.elim
def RetP (R:List Ty)(K:tden R->WP):Ending->WP:=fun e w=>match e with
 | .returned v=> ∃x,renc R x=v/\K x w
 |_=>False
def resP (T:Tab)(e:Env):List ResultVar->(List (Option Value)->WP)->WP
 | [],k=>k []
 | .tmp t::r,k=>match e.get t with
  |some v=>resP T e r fun vs=>k (some v::vs)
  |none=>fun _=>False
 | .cell a t :: r, k => match e.get a with
  |some (.pointer (some p))=>match T.ty t with
   |some ty=>Ld ty p fun x=>resP T e r fun vs=>k (some (ty.enc x)::vs)
   |none=>fun _=>False
  |_=>fun _=>False
def finK (T:Tab)(rs:List ResultVar)(R:List Ty)(K:tden R->WP):EK:=fun ex e=>match ex with
 | .normal=>resP T e rs fun vs w=>tdecs R vs fun x=>K x w
 | .ret=>resP T e rs fun vs w=>tdecs R vs fun x=>K x w
 |_=>fun _=>False
def argEnv (args:List Value):Env:=(List.range args.length).zip args
def trF (P:Program)(T:Tab)(fn:Func)(an:Ann)(args:List Value)(R:List Ty)(K:tden R->WP):WP:=
 match fn.body with
 |some c=>tr P T fn.ntmps an c (argEnv args) (finK T fn.results.toList R K)
 |none=>fun _=>False
def readR (a:Act):ResultVar->Sem Value
 | .tmp t=>pure (a.tmps.getD t undef)
 | .cell x t=>do loadVar t (<-asAddr (a.tmps.getD x undef))
theorem resP_sound (hT:T.ok P){e:Env}{a:Act}(hag:Agree n e a){w}: ∀(rs:List ResultVar) (k:List (Option Value)->WP),resP T e rs k w->
  ∃vs:List Value,k (vs.map some) w/\(rs.mapM (readR a)).run P w= .ok vs w:=by
 intro rs
 induction rs with
 |nil=>intro k h;exact⟨[],h,by simp⟩
 | cons r rs ih =>
  intro k h
  cases r with
  | tmp t =>
   simp only[resP]at h
   cases hg:e.get t with
   |none=>simp only[hg]at h
   |some v=>
    simp only[hg]at h
    obtain⟨vs,hk,hr⟩:=ih _ h
    refine⟨v::vs,hk,?_⟩
    rw[List.mapM_cons]
    simp only[Sem.run_bind,readR,Sem.run_pure,Result.andThen_ok,hr,hag.get t v hg]
  | cell x t =>
   simp only[resP]at h
   cases hg:e.get x with
   |none=>simp only[hg]at h
   | some v =>
    simp only[hg]at h
    cases v with
    | pointer p =>
     cases p with
     |none=>exact h.elim
     | some p =>
      simp only at h
      cases ht:T.ty t with
      |none=>simp only[ht]at h
      |some ty=>
       simp only[ht]at h
       obtain⟨y,hy,h⟩:=Ld_elim h
       obtain⟨vs,hk,hr⟩:=ih _ h
       refine⟨ty.enc y::vs,hk,?_⟩
       rw[List.mapM_cons]
       simp only[Sem.run_bind,readR,Sem.run_pure,Result.andThen_ok,hr,hag.get x _ hg,asAddr,run_loadVar hT ht hy]
    |_=>exact h.elim
theorem run_results (fn:Func)(a:Act)(w:World){vs:List Value}(h:(fn.results.toList.mapM (readR a)).run P w= .ok vs w):
  (results fn a.tmps).run P w= .ok (if h:vs.length=1 then vs[0]else .tuple vs.toArray) w:=by
 have e:results fn a.tmps=(do let vs<-fn.results.mapM (readR a);pure (if h:vs.size=1 then vs[0]else .tuple vs)):=by
  unfold results
  have hf:(fun r:ResultVar=>(match r with| .tmp t=>pure (a.tmps.getD t undef)| .cell x t=>do loadVar t (<-asAddr (a.tmps.getD x undef)):Sem Value))=readR a:=by
   funext r
   cases r<;>rfl
  rw[<-hf]
  rfl
 rw[e,Array.mapM_eq_mapM_toList]
 simp only[Sem.run_bind,Sem.run_map,h,Result.andThen_ok,Sem.run_pure]
 simp
theorem tencs_length : ∀(l:List Ty) (x:tden l),(tencs l x).length=l.length
 | [],_=>rfl
 | [_],_=>rfl
 |_::t::l,x=>by simp[tencs,tencs_length (t::l) x.2]
theorem renc_eq (R:List Ty)(x:tden R):renc R x=if h:(tencs R x).length=1 then(tencs R x)[0]else .tuple (tencs R x).toArray:=by
 match R,x with
 | [],_=>rfl
 | [_],_=>rfl
 |s::t::l,x=>rw[dif_neg (by rw[tencs_length];simp)];rfl
theorem fin_sound (hT:T.ok P){fn:Func}{R:List Ty}{K:tden R->WP}{ex:Exit}{e:Env}{a:Act}{w}(hag:Agree n e a)(h:finK T fn.results.toList R K ex e w):
  bodyPost P fn (RetP R K) ex a w:=by
 have key:resP T e fn.results.toList (fun vs w=>tdecs R vs fun x=>K x w) w->a.defers=[]/\ ∃v,(results fn a.tmps).run P w= .ok v w/\RetP R K (.returned v) w:=by
  intro h
  obtain⟨vs,hk,hr⟩:=resP_sound hT hag _ _ h
  obtain⟨x,hx,hk'⟩:=tdecs_sound hk
  have hvs:tencs R x=vs:=by
   have h1:=congrArg (List.filterMap id) hx
   simpa using h1
  subst hvs
  exact⟨hag.defers,_,run_results fn a w hr,x,renc_eq R x,hk'⟩
 cases ex with
 |normal=>exact key h
 |ret=>exact key h
 |_=>exact h.elim
theorem get_zip : ∀(l:List Value) (k i:Nat) (v:Value),Env.get ((List.range' k l.length).zip l) i=some v->k<=i/\l[i-k]? =some v
 | [],k,i,v,h=>by simp[Env.get]at h
 | u :: l, k, i, v, h => by
  have h:Env.get ((k,u)::(List.range' (k+1) l.length).zip l) i=some v:=h
  by_cases hi:k=i
  ·subst hi
   rw[Env.get_cons_self]at h
   exact⟨Nat.le_refl _,by simpa using h⟩
  ·rw[Env.get_cons_ne _ _ hi]at h
   obtain⟨h1,h2⟩:=get_zip l (k+1) i v h
   exact⟨by omega,by rw[show i-k=i-(k+1)+1 by omega,List.getElem?_cons_succ];exact h2⟩
def noPanic (Q:Exit->Act->WP):Exit->Act->WP:=fun ex a w=>match ex with
 | .panic _=>False
 |ex=>Q ex a w
theorem calls_of_tr (hC:Ctx P T)(hm:P.follows .mixedOrders=true){f:Nat}{fn:Func}{c:Code}(hf:P.funcs[f]? =some fn)(hb:fn.body=some c)(hok:codeOk c=true)(an:Ann){args:List Value}(hn:args.length<=fn.ntmps)
  {R:List Ty} {K:tden R->WP} {w} (h:trF P T fn an args R K w):Calls P f args.toArray w (RetP R K):=by
 unfold trF at h
 rw[hb]at h
 refine calls_of_wp hf hb ?_
 have hag:Agree fn.ntmps (argEnv args) {tmps:=args.toArray++Array.replicate (fn.ntmps-args.toArray.size) undef,defers:=[]}:=by
  refine⟨by simp;omega,rfl,fun i v hv=>?_⟩
  unfold argEnv at hv
  rw[List.range_eq_range']at hv
  obtain⟨_,hv⟩:=get_zip args 0 i v hv
  simp only[Nat.sub_zero]at hv
  have hi:i<args.length:=(List.getElem?_eq_some_iff.1 hv).1
  rw[Array.getD_eq_getD_getElem?,Array.getElem?_append_left (by simpa using hi)]
  simp[hv]
 refine wp_mono (Q:=noPanic (bodyPost P fn (RetP R K))) ?_ ?_
 ·refine tr_sound hC hm an c hok _ _ w _ _ ?_ hag ?_ h
  ·intro c a w h;exact h
  ·intro ex e' a' w' h1 _ h3
   have:=fin_sound hC.ok h1 h3
   cases ex with
   |panic c=>exact h3.elim
   |_=>exact this
 ·intro ex a w h
  cases ex with
  |panic c=>exact h.elim
  |_=>exact h
end
abbrev Hp :=Addr->Option (Value×Bool)
abbrev Chunk :=Hp->Prop
def SatU (w:World):(Addr->Prop)->List Chunk->Prop
 |_,[]=>True
 |U,c::L=> ∃g:Hp,c g/\(∀a v,g a=some v->w.cell? a=some v.1/\w.frozen? a=v.2/\ ¬U a)/\SatU w (fun a=>U a\/g a≠none) L
def Sat (w:World)(L:List Chunk):Prop:=SatU w (fun _=>False) L
def Mem (w w':World):Prop:=(∀a,w'.cell? a=w.cell? a)/\ ∀a,w'.frozen? a=w.frozen? a
theorem Mem.refl (w:World):Mem w w:=⟨fun _=>rfl,fun _=>rfl⟩
theorem Mem.drew (w:World):Mem w w.drew:=⟨fun _=>rfl,fun _=>rfl⟩
theorem Mem.trans {a b c}(h:Mem a b)(k:Mem b c):Mem a c:=⟨fun x=>(k.1 x).trans (h.1 x),fun x=>(k.2 x).trans (h.2 x)⟩
theorem SatU.mem {w w'}(m:Mem w w'): ∀{L} {U:Addr->Prop},SatU w U L->SatU w' U L
 | [],_,_=>trivial
 |c::L,U,⟨g,hc,hg,hr⟩=>⟨g,hc,fun a v h=>by rw[m.1,m.2];exact hg a v h,SatU.mem m hr⟩
theorem Sat.mem {w w' L}(h:Sat w L)(m:Mem w w'):Sat w' L:=SatU.mem m h
theorem Sat.drew {w:World}{L}(h:Sat w L):Sat w.drew L:=h.mem (Mem.drew w)
theorem SatU.mono {w}: ∀{L} {U U':Addr->Prop},(∀a,U a->U' a)->SatU w U' L->SatU w U L
 | [],_,_,_,_=>trivial
 | c :: L, U, U', h, ⟨g, hc, hg, hr⟩ => ⟨g, hc, fun a v e => ⟨(hg a v e).1, (hg a v e).2.1, fun hu => (hg a v e).2.2 (h a hu)⟩,
   SatU.mono (fun a=>Or.imp_left (h a)) hr⟩
inductive Take :List Chunk->Chunk->List Chunk->Prop
 |here {c:Chunk} {L:List Chunk}:Take (c::L) c L
 |there {c d:Chunk} {L R:List Chunk}:Take L c R->Take (d::L) c (d::R)
theorem Take.k1 {c0 c1:Chunk}{L}:Take (c0::c1::L) c1 (c0::L):=.there .here
theorem Take.k2 {c0 c1 c2:Chunk}{L}:Take (c0::c1::c2::L) c2 (c0::c1::L):=.there .k1
theorem Take.k3 {c0 c1 c2 c3:Chunk}{L}:Take (c0::c1::c2::c3::L) c3 (c0::c1::c2::L):=.there .k2
theorem Take.k4 {c0 c1 c2 c3 c4:Chunk}{L}:Take (c0::c1::c2::c3::c4::L) c4 (c0::c1::c2::c3::L):=.there .k3
theorem Take.k5 {c0 c1 c2 c3 c4 c5:Chunk}{L}:Take (c0::c1::c2::c3::c4::c5::L) c5 (c0::c1::c2::c3::c4::L):=.there .k4
theorem Take.k6 {c0 c1 c2 c3 c4 c5 c6:Chunk}{L}:Take (c0::c1::c2::c3::c4::c5::c6::L) c6 (c0::c1::c2::c3::c4::c5::L):=.there .k5
theorem Take.k7 {c0 c1 c2 c3 c4 c5 c6 c7:Chunk}{L}:Take (c0::c1::c2::c3::c4::c5::c6::c7::L) c7 (c0::c1::c2::c3::c4::c5::c6::L):=.there .k6
theorem Take.k8 {c0 c1 c2 c3 c4 c5 c6 c7 c8:Chunk}{L}:Take (c0::c1::c2::c3::c4::c5::c6::c7::c8::L) c8 (c0::c1::c2::c3::c4::c5::c6::c7::L):=.there .k7
theorem Take.k9 {c0 c1 c2 c3 c4 c5 c6 c7 c8 c9:Chunk}{L}:Take (c0::c1::c2::c3::c4::c5::c6::c7::c8::c9::L) c9 (c0::c1::c2::c3::c4::c5::c6::c7::c8::L):=.there .k8
theorem Take.k10 {c0 c1 c2 c3 c4 c5 c6 c7 c8 c9 c10:Chunk}{L}:Take (c0::c1::c2::c3::c4::c5::c6::c7::c8::c9::c10::L) c10 (c0::c1::c2::c3::c4::c5::c6::c7::c8::c9::L):=.there .k9
theorem Take.k11 {c0 c1 c2 c3 c4 c5 c6 c7 c8 c9 c10 c11:Chunk}{L}:Take (c0::c1::c2::c3::c4::c5::c6::c7::c8::c9::c10::c11::L) c11 (c0::c1::c2::c3::c4::c5::c6::c7::c8::c9::c10::L):=.there .k10
theorem Take.k12 {c0 c1 c2 c3 c4 c5 c6 c7 c8 c9 c10 c11 c12:Chunk}{L}:Take (c0::c1::c2::c3::c4::c5::c6::c7::c8::c9::c10::c11::c12::L) c12 (c0::c1::c2::c3::c4::c5::c6::c7::c8::c9::c10::c11::L):=.there .k11
theorem Take.k13 {c0 c1 c2 c3 c4 c5 c6 c7 c8 c9 c10 c11 c12 c13:Chunk}{L}:Take (c0::c1::c2::c3::c4::c5::c6::c7::c8::c9::c10::c11::c12::c13::L) c13 (c0::c1::c2::c3::c4::c5::c6::c7::c8::c9::c10::c11::c12::L):=.there .k12
theorem Take.k14 {c0 c1 c2 c3 c4 c5 c6 c7 c8 c9 c10 c11 c12 c13 c14:Chunk}{L}:Take (c0::c1::c2::c3::c4::c5::c6::c7::c8::c9::c10::c11::c12::c13::c14::L) c14 (c0::c1::c2::c3::c4::c5::c6::c7::c8::c9::c10::c11::c12::c13::L):=.there .k13
theorem Take.k15 {c0 c1 c2 c3 c4 c5 c6 c7 c8 c9 c10 c11 c12 c13 c14 c15:Chunk}{L}:Take (c0::c1::c2::c3::c4::c5::c6::c7::c8::c9::c10::c11::c12::c13::c14::c15::L) c15 (c0::c1::c2::c3::c4::c5::c6::c7::c8::c9::c10::c11::c12::c13::c14::L):=.there .k14
theorem Take.k16 {c0 c1 c2 c3 c4 c5 c6 c7 c8 c9 c10 c11 c12 c13 c14 c15 c16:Chunk}{L}:Take (c0::c1::c2::c3::c4::c5::c6::c7::c8::c9::c10::c11::c12::c13::c14::c15::c16::L) c16 (c0::c1::c2::c3::c4::c5::c6::c7::c8::c9::c10::c11::c12::c13::c14::c15::L):=.there .k15
theorem Take.k17 {c0 c1 c2 c3 c4 c5 c6 c7 c8 c9 c10 c11 c12 c13 c14 c15 c16 c17:Chunk}{L}:Take (c0::c1::c2::c3::c4::c5::c6::c7::c8::c9::c10::c11::c12::c13::c14::c15::c16::c17::L) c17 (c0::c1::c2::c3::c4::c5::c6::c7::c8::c9::c10::c11::c12::c13::c14::c15::c16::L):=.there .k16
theorem Take.k18 {c0 c1 c2 c3 c4 c5 c6 c7 c8 c9 c10 c11 c12 c13 c14 c15 c16 c17 c18:Chunk}{L}:Take (c0::c1::c2::c3::c4::c5::c6::c7::c8::c9::c10::c11::c12::c13::c14::c15::c16::c17::c18::L) c18 (c0::c1::c2::c3::c4::c5::c6::c7::c8::c9::c10::c11::c12::c13::c14::c15::c16::c17::L):=.there .k17
theorem Take.k19 {c0 c1 c2 c3 c4 c5 c6 c7 c8 c9 c10 c11 c12 c13 c14 c15 c16 c17 c18 c19:Chunk}{L}:Take (c0::c1::c2::c3::c4::c5::c6::c7::c8::c9::c10::c11::c12::c13::c14::c15::c16::c17::c18::c19::L) c19 (c0::c1::c2::c3::c4::c5::c6::c7::c8::c9::c10::c11::c12::c13::c14::c15::c16::c17::c18::L):=.there .k18
theorem Take.k20 {c0 c1 c2 c3 c4 c5 c6 c7 c8 c9 c10 c11 c12 c13 c14 c15 c16 c17 c18 c19 c20:Chunk}{L}:Take (c0::c1::c2::c3::c4::c5::c6::c7::c8::c9::c10::c11::c12::c13::c14::c15::c16::c17::c18::c19::c20::L) c20 (c0::c1::c2::c3::c4::c5::c6::c7::c8::c9::c10::c11::c12::c13::c14::c15::c16::c17::c18::c19::L):=.there .k19
theorem Take.k21 {c0 c1 c2 c3 c4 c5 c6 c7 c8 c9 c10 c11 c12 c13 c14 c15 c16 c17 c18 c19 c20 c21:Chunk}{L}:Take (c0::c1::c2::c3::c4::c5::c6::c7::c8::c9::c10::c11::c12::c13::c14::c15::c16::c17::c18::c19::c20::c21::L) c21 (c0::c1::c2::c3::c4::c5::c6::c7::c8::c9::c10::c11::c12::c13::c14::c15::c16::c17::c18::c19::c20::L):=.there .k20
theorem Take.k22 {c0 c1 c2 c3 c4 c5 c6 c7 c8 c9 c10 c11 c12 c13 c14 c15 c16 c17 c18 c19 c20 c21 c22:Chunk}{L}:Take (c0::c1::c2::c3::c4::c5::c6::c7::c8::c9::c10::c11::c12::c13::c14::c15::c16::c17::c18::c19::c20::c21::c22::L) c22 (c0::c1::c2::c3::c4::c5::c6::c7::c8::c9::c10::c11::c12::c13::c14::c15::c16::c17::c18::c19::c20::c21::L):=.there .k21
theorem SatU.swap {w}{U:Addr->Prop}{c d:Chunk}{L}(h:SatU w U (c::d::L)):SatU w U (d::c::L):=by
 obtain⟨g,hc,hg,k,hd,hk,hr⟩:=h
 refine⟨k,hd,fun a v e=>⟨(hk a v e).1,(hk a v e).2.1,fun hu=>(hk a v e).2.2 (.inl hu)⟩,g,hc,
  fun a v e=>⟨(hg a v e).1,(hg a v e).2.1,?_⟩,SatU.mono ?_ hr⟩
 ·rintro(hu|hn)
  ·exact(hg a v e).2.2 hu
  ·cases hk':k a with
   |none=>exact hn hk'
   |some x=>exact(hk a x hk').2.2 (.inr (by rw[e];simp))
 ·intro a;rintro((h|h)|h)
  ·exact .inl (.inl h)
  ·exact .inr h
  ·exact .inl (.inr h)
theorem SatU.take {w L R}{c:Chunk}(t:Take L c R): ∀{U:Addr->Prop},SatU w U L->SatU w U (c::R):=by
 induction t with
 |here=>exact fun h=>h
 |there t ih=>
  intro U h
  obtain⟨g,hc,hg,hr⟩:=h
  exact SatU.swap ⟨g,hc,hg,ih hr⟩
theorem SatU.untake {w L R}{c:Chunk}(t:Take L c R): ∀{U:Addr->Prop},SatU w U (c::R)->SatU w U L:=by
 induction t with
 |here=>exact fun h=>h
 |there t ih=>
  intro U h
  obtain⟨g,hc,hg,hr⟩:=SatU.swap h
  exact⟨g,hc,hg,ih hr⟩
theorem Sat.take {w L R}{c:Chunk}(h:Sat w L)(t:Take L c R):Sat w (c::R):=SatU.take t h
theorem Sat.untake {w L R}{c:Chunk}(h:Sat w (c::R))(t:Take L c R):Sat w L:=SatU.untake t h
theorem Sat.cons {w}{c d:Chunk}{L}(h:Sat w (c::L))(i: ∀g,c g->d g):Sat w (d::L):=by
 obtain⟨g,hc,hg,hr⟩:=h
 exact⟨g,i g hc,hg,hr⟩
theorem Sat.tail {w}{c:Chunk}{L}(h:Sat w (c::L)):Sat w L:=by
 obtain⟨g,hc,hg,hr⟩:=h
 exact SatU.mono (fun _ h=>h.elim) hr
theorem SatU.set {w:World}{p:Addr}{x:Value}: ∀{L} {U:Addr->Prop},U p->SatU w U L->SatU (w.setCell p x) U L
 | [],_,_,_=>trivial
 |c::L,U,hp,⟨g,hc,hg,hr⟩=>by
  refine⟨g,hc,fun a v e=>?_,SatU.set (.inl hp) hr⟩
  have hne:p≠a:=fun e'=>(hg a v e).2.2 (e'▸hp)
  rw[World.cell?_setCell_other _ _ _ _ hne,World.frozen?_setCell]
  exact hg a v e
theorem SatU.alloc {w:World}{o:Obj}: ∀{L} {U:Addr->Prop},SatU w U L->SatU (w.alloc o) (fun a=>U a\/a.block=w.heap.size) L
 | [],_,_=>trivial
 | c :: L, U, ⟨g, hc, hg, hr⟩ => by
  refine⟨g,hc,fun a v e=>?_,SatU.mono ?_ (SatU.alloc hr)⟩
  ·obtain⟨h1,h2,h3⟩:=hg a v e
   have hlt:=World.block_lt_of_cell? w a h1
   have hne:a.block≠w.heap.size:=Nat.ne_of_lt hlt
   rw[World.cell?_alloc_old w o a hne,World.frozen?_alloc_old w o a hne]
   exact⟨h1,h2,fun h=>h.elim h3 hne⟩
  ·rintro a ((h|h)|h)
   ·exact .inl (.inl h)
   ·exact .inr h
   ·exact .inl (.inr h)
def At (c:Chunk)(p:Addr)(v:Value)(u:Value->Chunk):Prop:= ∀g,c g->g p=some (v,false)/\ ∀x,u x (fun a=>if a=p then some (x,false)else g a)
theorem Sat.get {w:World}{c:Chunk}{p:Addr}{v:Value}{u:Value->Chunk}{L}(h:Sat w (c::L))(a:At c p v u):w.cell? p=some v/\w.frozen? p=false:=by
 obtain⟨g,hc,hg,hr⟩:=h
 exact⟨(hg p _ (a g hc).1).1,(hg p _ (a g hc).1).2.1⟩
theorem Sat.set {w:World}{c:Chunk}{p:Addr}{v:Value}{u:Value->Chunk}{L}(h:Sat w (c::L))(a:At c p v u)(x:Value):Sat (w.setCell p x) (u x::L):=by
 obtain⟨g,hc,hg,hr⟩:=h
 obtain⟨hp,hu⟩:=a g hc
 have hw:=(hg p _ hp).1
 refine⟨_,hu x,fun b y e=>?_,?_⟩
 ·by_cases hb:b=p
  ·subst hb
   simp only[if_pos]at e
   injection e with e
   subst e
   exact⟨World.cell?_setCell_same _ _ _ hw,by rw[World.frozen?_setCell];exact(hg b _ hp).2.1,fun h=>h⟩
  ·simp only[if_neg hb]at e
   rw[World.cell?_setCell_other _ _ _ _ (Ne.symm hb),World.frozen?_setCell]
   exact hg b y e
 ·have h1:=SatU.set (w:=w) (p:=p) (x:=x) (U:=fun a=>False\/g a≠none) (L:=L) (.inr (by rw[hp];simp)) hr
  refine SatU.mono ?_ h1
  intro b hb
  rcases hb with hb|hb
  ·exact hb.elim
  ·refine .inr ?_
   by_cases e:b=p
   ·subst e;rw[hp];simp
   ·simpa [if_neg e]using hb
def Arr (p:Addr)(vs:List Value):Chunk:=fun g=>(∀i v,vs[i]? =some v->g (p.add i)=some (v,false))/\ ∀a,g a≠none-> ∃i,i<vs.length/\a=p.add i
theorem Addr.add_inj {p:Addr}{i j:Nat}(h:p.add i=p.add j):i=j:=by
 unfold Addr.add at h
 split at h<;>split at h
 ·omega
 ·have:=congrArg Addr.off h;simp at this;omega
 ·have:=congrArg Addr.off h;simp at this;omega
 ·have:=congrArg Addr.off h;simp at this;omega
theorem Addr.add_add (p:Addr)(i j:Nat):(p.add i).add j=p.add (i+j):=by
 unfold Addr.add
 by_cases hi:i=0<;>by_cases hj:j=0<;>simp[hi,hj,Nat.add_assoc]
theorem at_arr {p:Addr}{vs:List Value}{k:Nat}{v:Value}(h:vs[k]? =some v):At (Arr p vs) (p.add k) v (fun x=>Arr p (vs.set k x)):=by
 intro g hg
 refine⟨hg.1 k v h,fun x=>⟨fun i y hy=>?_,fun a ha=>?_⟩⟩
 ·rw[List.getElem?_set]at hy
  by_cases e:k=i
  ·subst e
   have hk:k<vs.length:=by
    rcases Nat.lt_or_ge k vs.length with h'|h'
    ·exact h'
    ·simp[List.getElem?_eq_none h']at h
   simp[hk]at hy
   simp[hy]
  ·rw[if_neg e]at hy
   have hne:p.add i≠p.add k:=fun h=>e (Addr.add_inj h).symm
   simp[hne,hg.1 i y hy]
 ·by_cases e:a=p.add k
  ·refine⟨k,?_,e⟩
   rw[List.length_set]
   rcases Nat.lt_or_ge k vs.length with h'|h'
   ·exact h'
   ·simp[List.getElem?_eq_none h']at h
  ·simp only[if_neg e]at ha
   obtain⟨i,hi,hx⟩:=hg.2 a ha
   exact⟨i,by rw[List.length_set];exact hi,hx⟩
theorem Sat.new {w:World}{L}(h:Sat w L)(cells:List Value)(e:Nat)(fr:Nat×Nat)(hf: ∀i,i<cells.length-> ¬(fr.1<=i/\i<fr.2)):
  Sat (w.alloc (.cells cells.toArray e fr)) (Arr ⟨w.heap.size,0,none⟩ cells::L):=by
 have key: ∀i,(⟨w.heap.size,0,none⟩:Addr).add i=⟨w.heap.size,i,none⟩:=by
  intro i
  unfold Addr.add
  split
  ·subst_vars;rfl
  ·simp
 refine⟨fun a=>if a.block=w.heap.size/\a.spot=none then cells[a.off]?.map (·,false)else none,⟨fun i v hv=>?_,fun a ha=>?_⟩,fun a v hv=>?_,SatU.mono ?_ (SatU.alloc h)⟩
 ·rw[key];simp[hv]
 ·dsimp only at ha
  split at ha
  ·rename_i hb
   obtain⟨b,o,s⟩:=a
   simp only at hb ha
   obtain⟨rfl,rfl⟩:=hb
   refine⟨o,?_,(key o).symm⟩
   rcases Nat.lt_or_ge o cells.length with h'|h'
   ·exact h'
   ·simp[List.getElem?_eq_none h']at ha
  ·exact(ha rfl).elim
 ·dsimp only at hv
  split at hv
  ·rename_i hb
   obtain⟨b,o,s⟩:=a
   simp only at hb hv
   obtain⟨rfl,rfl⟩:=hb
   have ho:o<cells.length:=by
    rcases Nat.lt_or_ge o cells.length with h'|h'
    ·exact h'
    ·simp[List.getElem?_eq_none h']at hv
   obtain⟨x,hx,rfl⟩: ∃x,cells[o]? =some x/\(x,false)=v:=by simpa using hv
   refine⟨by simp only[World.alloc,World.cell?,Array.getElem?_push_size];simpa using hx,?_,fun h=>h⟩
   have:=hf o ho
   simp only[World.alloc,World.frozen?,Array.getElem?_push_size]
   simp only[Bool.and_eq_false_iff,decide_eq_false_iff_not]
   omega
  ·cases hv
 ·intro a ha
  rcases ha with ha|ha
  ·exact ha.elim
  ·refine .inr ?_
   by_cases hb:a.block=w.heap.size
   ·exact hb
   ·simp[hb]at ha
class Near (w w':World):Prop where
 mem:Mem w w'
instance Near.refl {w:World}:Near w w:=⟨Mem.refl w⟩
instance Near.drew {w w':World}[n:Near w w']:Near w w'.drew:=⟨n.mem.trans (Mem.drew w')⟩
theorem Sat.near {w w' L}(h:Sat w L)[n:Near w w']:Sat w' L:=h.mem n.mem
def Own (D:Hp):Chunk:=fun g=>g=D
theorem Sat.own {w:World}{L D}(h:Sat w (Own D::L)){a:Addr}{v:Value}{f:Bool}(e:D a=some (v,f)):w.cell? a=some v:=by
 obtain⟨g,rfl,hg,_⟩:=h
 exact(hg a _ e).1
class Nth (vs:List Value)(k:Nat)(v:outParam Value)(u:outParam (Value->List Value)):Prop where
 get:vs[k]? =some v
 set: ∀x,vs.set k x=u x
instance Nth.zero {v:Value}{vs:List Value}:Nth (v::vs) 0 v (fun x=>x::vs):=⟨rfl,fun _=>rfl⟩
instance Nth.succ {y v:Value}{vs:List Value}{k:Nat}{u:Value->List Value}[i:Nth vs k v u]:Nth (y::vs) (k+1) v (fun x=>y::u x):=
 ⟨by simpa using i.get,fun x=>by simp[i.set]⟩
class AtI (c:Chunk)(p:Addr)(v:outParam Value)(u:outParam (Value->Chunk)):Prop where
 at_:At c p v u
instance AtI.add {p:Addr}{vs:List Value}{k:Nat}{v:Value}{u:Value->List Value}[i:Nth vs k v u]:AtI (Arr p vs) (p.add k) v (fun x=>Arr p (u x)):=
 ⟨by have:=at_arr (p:=p) i.get;simp only[i.set]at this;exact this⟩
instance AtI.addadd {p:Addr}{vs:List Value}{j k:Nat}{v:Value}{u:Value->List Value}[i:Nth vs (j+k) v u]:AtI (Arr p vs) ((p.add j).add k) v (fun x=>Arr p (u x)):=
 ⟨by have:=at_arr (p:=p) i.get;simp only[i.set]at this;rw[Addr.add_add];exact this⟩
instance AtI.zero {p:Addr}{vs:List Value}{v:Value}:AtI (Arr p (v::vs)) p v (fun x=>Arr p (x::vs)):=
 ⟨at_arr (p:=p) (vs:=v::vs) (k:=0) rfl⟩
class Has (L:List Chunk)(p:Addr)(v:outParam Value)(u:outParam (Value->List Chunk)):Prop where
 get: ∀w,Sat w L->w.cell? p=some v/\w.frozen? p=false
 set: ∀w x,Sat w L->Sat (w.setCell p x) (u x)
theorem Has.of_take {L R}{c:Chunk}{p:Addr}{v:Value}{u:Value->Chunk}{u':Value->List Chunk}(t:Take L c R)(a:At c p v u)(t': ∀x,Take (u' x) (u x) R):Has L p v u':=
 ⟨fun _ h=>(h.take t).get a,fun _ x h=>((h.take t).set a x).untake (t' x)⟩
inductive HasP (p:Addr)(v:Value):List Chunk->(Value->List Chunk)->Prop
 |here {c:Chunk} {L:List Chunk} {u:Value->Chunk} (a:At c p v u):HasP p v (c::L) (fun x=>u x::L)
 |there {c:Chunk} {L:List Chunk} {u:Value->List Chunk} (h:HasP p v L u):HasP p v (c::L) (fun x=>c::u x)
theorem HasP.take {p:Addr}{v:Value}{L}{u:Value->List Chunk}(h:HasP p v L u): ∃c R u',Take L c R/\At c p v u'/\ ∀x,Take (u x) (u' x) R:=by
 induction h with
 |here a=>exact⟨_,_,_,.here,a,fun _=>.here⟩
 |there _ ih=>
  obtain⟨c,R,u',t,a,t'⟩:=ih
  exact⟨c,_,u',.there t,a,fun x=>.there (t' x)⟩
theorem HasP.has {p:Addr}{v:Value}{L}{u:Value->List Chunk}(h:HasP p v L u):Has L p v u:=by
 obtain⟨c,R,u',t,a,t'⟩:=h.take
 exact Has.of_take t a t'
class HasI (L:List Chunk)(p:Addr)(v:outParam Value)(u:outParam (Value->List Chunk)):Prop where
 has:HasP p v L u
instance (priority:=low) HasI.there {c:Chunk}{L:List Chunk}{p:Addr}{v:Value}{u:Value->List Chunk}[i:HasI L p v u]:HasI (c::L) p v (fun x=>c::u x):=⟨.there i.has⟩
instance (priority:=high) HasI.here {c:Chunk}{L:List Chunk}{p:Addr}{v:Value}{u:Value->Chunk}[i:AtI c p v u]:HasI (c::L) p v (fun x=>u x::L):=⟨.here i.at_⟩
class Enc (s:S)(v:Value)(x:outParam s.den):Prop where
 eq:s.enc x=v
instance Enc.int {k:IntKind}{n:Int}:Enc (.int k) (.int k n) n:=⟨rfl⟩
instance Enc.bool {b:Bool}:Enc .bool (.bool b) b:=⟨rfl⟩
instance Enc.str {b:ByteArray}:Enc .str (.string b) b:=⟨rfl⟩
instance Enc.ptr {p:Option Addr}:Enc .ptr (.pointer p) p:=⟨rfl⟩
instance Enc.sl {a:Option Addr}{n c:Nat}:Enc .sl (.slice a n c) ⟨a,n,c⟩:=⟨rfl⟩
instance Enc.ifc {i:IV}:Enc .ifc i.enc i:=⟨rfl⟩
instance Enc.ifcNil :Enc .ifc .nilIface .nil:=⟨rfl⟩
instance Enc.ifcMk {t:TypeId}{v:Value}:Enc .ifc (.iface t v) (.mk t v):=⟨rfl⟩
instance Enc.fn {i:FV}:Enc .fn i.enc i:=⟨rfl⟩
instance Enc.fnNil :Enc .fn .nilFunc .nil:=⟨rfl⟩
instance Enc.fnMk {f:Fn}{a b:Array Value}:Enc .fn (.func f a b) (.mk f a b):=⟨rfl⟩
theorem Ld1 {s:S}{w w1 L}{p:Addr}{v:Value}{u:Value->List Chunk}{x:s.den}{K:(Ty.one s).den->WP}
  (h:Sat w L) [Near w w1] [i:HasI L p v u] [e:Enc s v x] (k:K x w1):Ld (.one s) p K w1:=
 ⟨x,by rw[e.eq];exact(i.has.has.get w1 h.near).1,k⟩
theorem LdC {s:S}{w:World}{p:Addr}{v:Value}{x:s.den}{K:(Ty.one s).den->WP}(h:w.cell? p=some v)[e:Enc s v x](k:K x w):Ld (.one s) p K w:=
 ⟨x,by rw[e.eq];exact h,k⟩
class RdN (vs:List Value)(k:Nat)(l:List S)(x:outParam (dens l)):Prop where
 rd: ∀j v,(encs l x)[j]? =some v->vs[k+j]? =some v
instance RdN.nil {vs:List Value}{k:Nat}:RdN vs k [] ():=⟨fun j v h=>by simp[encs]at h⟩
instance RdN.one {v:Value}{vs:List Value}{s:S}{x:s.den}[e:Enc s v x]:RdN (v::vs) 0 [s] x:=⟨fun j u h=>by
 cases j with
 |zero=>simp only[encs,List.getElem?_cons_zero,Option.some.injEq]at h;simp[<-h,e.eq]
 |succ j=>simp[encs]at h⟩
instance RdN.cons {v:Value}{vs:List Value}{s t:S}{l:List S}{x:s.den}{y:dens (t::l)}[e:Enc s v x][r:RdN vs 0 (t::l) y]:RdN (v::vs) 0 (s::t::l) (x,y):=⟨fun j u h=>by
 cases j with
 |zero=>simp only[encs,List.getElem?_cons_zero,Option.some.injEq]at h;simp[<-h,e.eq]
 |succ j=>
  simp only[encs,List.getElem?_cons_succ]at h
  have:=r.rd j u h
  simpa [Nat.zero_add]using this⟩
instance RdN.succ {y:Value}{vs:List Value}{k:Nat}{l:List S}{x:dens l}[r:RdN vs k l x]:RdN (y::vs) (k+1) l x:=⟨fun j u h=>by
 have:=r.rd j u h
 rw[show k+1+j=k+j+1 by omega]
 simpa using this⟩
class AtL (c:Chunk)(p:Addr)(l:List S)(x:outParam (dens l)):Prop where
 rd: ∀g,c g-> ∀j v,(encs l x)[j]? =some v->g (p.add j)=some (v,false)
instance AtL.add {p:Addr}{vs:List Value}{k:Nat}{l:List S}{x:dens l}[i:RdN vs k l x]:AtL (Arr p vs) (p.add k) l x:=
 ⟨fun g hg j v h=>by rw[Addr.add_add];exact hg.1 _ _ (i.rd j v h)⟩
instance AtL.addadd {p:Addr}{vs:List Value}{m k:Nat}{l:List S}{x:dens l}[i:RdN vs (m+k) l x]:AtL (Arr p vs) ((p.add m).add k) l x:=
 ⟨fun g hg j v h=>by rw[Addr.add_add,Addr.add_add,<-Nat.add_assoc];exact hg.1 _ _ (i.rd j v h)⟩
instance AtL.zero {p:Addr}{vs:List Value}{l:List S}{x:dens l}[i:RdN vs 0 l x]:AtL (Arr p vs) p l x:=
 ⟨fun g hg j v h=>by have:=hg.1 _ _ (i.rd j v h);rwa[Nat.zero_add]at this⟩
class HasL (L:List Chunk)(p:Addr)(l:List S)(x:outParam (dens l)):Prop where
 rd: ∀w,Sat w L->RdL w p (encs l x)
instance (priority:=low) HasL.there {c:Chunk}{L:List Chunk}{p:Addr}{l:List S}{x:dens l}[i:HasL L p l x]:HasL (c::L) p l x:=⟨fun w h=>i.rd w h.tail⟩
instance (priority:=high) HasL.here {c:Chunk}{L:List Chunk}{p:Addr}{l:List S}{x:dens l}[i:AtL c p l x]:HasL (c::L) p l x:=⟨fun w h j v e=>by
 obtain⟨g,hc,hg,_⟩:=h
 exact(hg _ _ (i.rd g hc j v e)).1⟩
theorem LdN {l:List S}{w w1 L}{p:Addr}{x:dens l}{K:(Ty.agg l).den->WP}
  (h:Sat w L) [Near w w1] [i:HasL L p l x] (k:K x w1):Ld (.agg l) p K w1:=⟨x,i.rd w1 h.near,k⟩
theorem LdR {l:List S}{w}{p:Addr}{vs:List Value}{x:dens l}{K:(Ty.agg l).den->WP}
  (h:RdL w p vs) [i:RdN vs 0 l x] (k:K x w):Ld (.agg l) p K w:=⟨x,fun j v e=>by have:=h _ _ (i.rd j v e);rwa[Nat.zero_add]at this,k⟩
theorem oneCell_encF (x:FV):x.enc.oneCell'=true:=by cases x<;>rfl
theorem St1 {w w1 L}{p:Addr}{v x:Value}{u:Value->List Chunk}{K:WP}
  (h:Sat w L) [Near w w1] [i:HasI L p v u] (h1:x.oneCell'=true) (k: ∀w',Sat w' (u x)->K w'):St p x K w1:=
 ⟨h1,⟨v,(i.has.has.get w1 h.near).1⟩,(i.has.has.get w1 h.near).2,k _ (i.has.has.set w1 x h.near)⟩
def StC (p:Addr):Nat->List Value->(WP)->WP
 |_,[],K=>K
 |i,v::vs,K=>St (p.add i) v (StC p (i+1) vs K)
theorem StC_sound {p:Addr}{K:WP}: ∀{vs:List Value} {i:Nat} {w},StC p i vs K w->StOk w p vs i/\K (setL w p vs i)
 | [],i,w,h=>⟨fun j v e=>by simp at e,h⟩
 | v :: vs, i, w, ⟨h1, ⟨u, hu⟩, hf, k⟩ => by
  obtain⟨ho,hk⟩:=StC_sound k
  refine⟨fun j x e=>?_,hk⟩
  cases j with
  |zero=>
   simp only[List.getElem?_cons_zero,Option.some.injEq]at e
   subst e
   exact⟨⟨u,hu⟩,hf,h1⟩
  |succ j=>
   obtain⟨⟨u',hu'⟩,hf',h1'⟩:=ho j x (by simpa using e)
   rw[show i+(j+1)=i+1+j by omega]
   refine⟨?_,by rw[World.frozen?_setCell]at hf';exact hf',h1'⟩
   by_cases e':p.add i=p.add (i+1+j)
   ·exact⟨u,e'▸hu⟩
   ·exact⟨u',by rw[World.cell?_setCell_other _ _ _ _ e']at hu';exact hu'⟩
theorem StL_of {p:Addr}{vs:List Value}{K:WP}{w}(h:StC p 0 vs K w):StL p vs K w:=StC_sound h
theorem NewP_run {w w1 L}{cells:List Value}{e:Nat}{K:Addr->WP}(h:Sat w L)[Near w w1](k: ∀p w',Sat w' (Arr p cells::L)->K p w'):NewP cells e K w1:=
 k _ _ (h.near.new cells e (0,0) (fun i _ h=>absurd h.2 (Nat.not_lt_zero _)))
theorem NewS_run {w w1 L}{cells:List Value}{e n:Nat}{K:Sl->WP}(h:Sat w L)[Near w w1](k: ∀p w',Sat w' (Arr p cells::L)->K ⟨some p,n,n⟩ w'):NewS cells e n K w1:=
 k _ _ (h.near.new cells e (0,0) (fun i _ h=>absurd h.2 (Nat.not_lt_zero _)))
theorem MakeP_run {w w1 L}{s:SI}{l c:Int}{K:Sl->WP}(h:Sat w L)[Near w w1](hb:0<=l/\l<=c/\(s.by_:Int)*c<=281474976710656/\c<=9223372036854775807)
  (k: ∀p w',Sat w' (Arr p (zrep s.l c.toNat)::L)->K ⟨some p,l.toNat,c.toNat⟩ w'):MakeP s l c K w1:=
 ⟨hb,k _ _ (h.near.new _ _ (0,0) (fun i _ h=>absurd h.2 (Nat.not_lt_zero _)))⟩
theorem bytesOf_length (s:ByteArray):(bytesOf s).length=s.size:=by simp only[bytesOf,List.length_map,Array.length_toList];rfl
theorem BytesP_run {w w1 L}{s:ByteArray}{e:Nat}{K:Sl->WP}(h:Sat w L)[Near w w1]
  (k: ∀p c w',s.size<=c->Sat w' (Arr p (bytesOf s++List.replicate (c-s.size) (Value.int .u8 0))::L)->K ⟨some p,s.size,c⟩ w'):BytesP e s K w1:=by
 intro c hc
 refine k _ _ _ hc (Sat.drew (h.near.new _ _ (c,c+1) (fun i hi=>?_)))
 simp only[List.length_append,bytesOf_length,List.length_replicate]at hi
 simp only
 omega
theorem ifd {p:Prop}[Decidable p]{A B:Prop}(a:p->A)(b: ¬p->B):if decide p=true then A else B:=by
 by_cases h:p
 ·rw[if_pos (decide_eq_true h)];exact a h
 ·rw[if_neg (by simpa using h)];exact b h
theorem ifb {b:Bool}{A B:Prop}(x:b=true->A)(y:b=false->B):if b=true then A else B:=by
 cases b
 ·exact y rfl
 ·exact x rfl
theorem ifn {b:Bool}{A B:Prop}(x:b=false->A)(y:b=true->B):if(!b)=true then A else B:=by
 cases b
 ·exact x rfl
 ·exact y rfl
theorem ife {a b:Int}{A B:Prop}(x:a=b->A)(y:a≠b->B):if(a==b)=true then A else B:=by
 by_cases h:a=b
 ·rw[if_pos (by simpa using h)];exact x h
 ·rw[if_neg (by simpa using h)];exact y h
theorem ifne {a b:Int}{A B:Prop}(x:a≠b->A)(y:a=b->B):if(a !=b)=true then A else B:=by
 by_cases h:a=b
 ·rw[if_neg (by simpa using h)];exact y h
 ·rw[if_pos (by simpa using h)];exact x h
theorem wi64 {x:Int}(h: -9223372036854775808<=x)(k:x<=9223372036854775807):IntKind.i64.wrap x=x:=by
 show(if(true&&decide (x%18446744073709551616>=9223372036854775808))=true then x%18446744073709551616-18446744073709551616 else x%18446744073709551616)=x
 by_cases hx:x%18446744073709551616>=9223372036854775808
 ·rw[if_pos (by simpa using hx)];omega
 ·rw[if_neg (by simpa using hx)];omega
theorem wu64 {x:Int}(h:0<=x)(k:x<=18446744073709551615):IntKind.u64.wrap x=x:=by
 simp only[IntKind.wrap,IntKind.bits,IntKind.signed,Bool.false_and,Bool.false_eq_true,if_false];omega
theorem wu32 {x:Int}(h:0<=x)(k:x<=4294967295):IntKind.u32.wrap x=x:=by
 simp only[IntKind.wrap,IntKind.bits,IntKind.signed,Bool.false_and,Bool.false_eq_true,if_false];omega
theorem wu8 {x:Int}(h:0<=x)(k:x<=255):IntKind.u8.wrap x=x:=by
 simp only[IntKind.wrap,IntKind.bits,IntKind.signed,Bool.false_and,Bool.false_eq_true,if_false];omega
section
variable {P : Program} {T : Tab} {n : Nat}
def ExtM (M:(Value->WP)->WP):Prop:= ∀(K K':Value->WP) (w0 w:World),(∀v w',K v w'->Ext w0 w'->K' v w')->Ext w0 w->M K w->M K' w
def Step.ext :Step->Prop| .loud M=>ExtM M|_=>True
theorem optv_ext (o:Option Value):(optv o).ext:=by unfold optv;split<;>trivial
theorem intOp_ext (op:BinOp)(k:IntKind)(x y:Int):(intOp op k x y).ext:=by unfold intOp;split<;>trivial
theorem strOp_ext (op:BinOp)(x y:ByteArray):(strOp op x y).ext:=by unfold strOp;split<;>trivial
theorem eqnStep_ext (op:BinOp)(c:Bool):(eqnStep op c).ext:=by unfold eqnStep;split<;>trivial
theorem bif_ext (b:Bool){s:Step}(h:s.ext):(bif b then s else .bad).ext:=by cases b<;>first|trivial|exact h
theorem cmpStep_ext (op:BinOp)(t:Nat)(y':Operand)(x y:Value):(cmpStep T op t y' x y).ext:=by
 unfold cmpStep
 split
 ·split
  ·unfold ptrCmp;split<;>first|exact eqnStep_ext _ _|trivial
  ·unfold slCmp;split<;>first|exact eqnStep_ext _ _|trivial
  ·unfold ifcCmp;split<;>(try split)<;>trivial
  ·unfold scCmp;split<;>(try split)<;>first|exact intOp_ext _ _ _ _|exact strOp_ext _ _ _|trivial
 ·unfold stCmp;split<;>(try split)<;>first|exact bif_ext _ trivial|trivial
 ·trivial
theorem binStep_ext (op:BinOp)(t:Nat)(y':Operand)(x y:Value):(binStep T op t y' x y).ext:=by
 unfold binStep
 split
 ·unfold shlStep;split<;>trivial
 ·unfold shrStep;split<;>trivial
 ·exact cmpStep_ext _ _ _ _ _
theorem sliceStep_ext (t:Nat)(x:Value)(lo hi mx:Option (Option Int)):(sliceStep T t x lo hi mx).ext:=by
 unfold sliceStep
 repeat' first|trivial|split
theorem indexStep_ext (t:Nat)(x i:Value):(indexStep T t x i).ext:=by
 unfold indexStep
 repeat' first|trivial|split
theorem withOnes_ext (os:List Value)(v:Value):(withOnes os v).ext:=by unfold withOnes;split<;>trivial
theorem buildStep_ext (t:Nat)(ps:List (Nat×Option Value)):(buildStep T t ps).ext:=by
 unfold buildStep
 repeat' first|trivial|exact withOnes_ext _ _|split
theorem NewP_ext {cells:List Value}{e:Nat}{K K':Addr->WP}{w0 w}(hk: ∀v w',K v w'->Ext w0 w'->K' v w')(h:Ext w0 w)(k:NewP cells e K w):NewP cells e K' w:=hk _ _ k (h.alloc _)
theorem NewS_ext {cells:List Value}{e m:Nat}{K K':Sl->WP}{w0 w}(hk: ∀v w',K v w'->Ext w0 w'->K' v w')(h:Ext w0 w)(k:NewS cells e m K w):NewS cells e m K' w:=hk _ _ k (h.alloc _)
theorem MakeP_ext {s:SI}{l c:Int}{K K':Sl->WP}{w0 w}(hk: ∀v w',K v w'->Ext w0 w'->K' v w')(h:Ext w0 w)(k:MakeP s l c K w):MakeP s l c K' w:=⟨k.1,hk _ _ k.2 (h.alloc _)⟩
theorem BytesP_ext {e:Nat}{s:ByteArray}{K K':Sl->WP}{w0 w}(hk: ∀v w',K v w'->Ext w0 w'->K' v w')(h:Ext w0 w)(k:BytesP e s K w):BytesP e s K' w:=fun c hc=>hk _ _ (k c hc) (h.alloc _).drew
theorem Ext.stS {w0 w}(h:Ext w0 w)(a:Option Addr)(i:Nat)(vs:List Value):Ext w0 (stS w a i vs):=by
 cases a with
 |none=>exact h
 |some a=>exact Ext.setL h
theorem AppP_ext {s:SI}{d x:Sl}{K K':Sl->WP}{w0 w}(hk: ∀v w',K v w'->Ext w0 w'->K' v w')(h:Ext w0 w)(k:AppP s d x K w):AppP s d x K' w:=by
 obtain⟨new,h1,h2,h3⟩:=k
 refine⟨new,h1,fun hc=>⟨(h2 hc).1,hk _ _ (h2 hc).2 (h.stS _ _ _)⟩,fun hc=>?_⟩
 obtain⟨a,b,old,ho,hr⟩:=h3 hc
 exact⟨a,b,old,ho,fun c hc=>hk _ _ (hr c hc) (h.alloc _).drew⟩
theorem CopyP_ext {s:SI}{d x:Sl}{K K':Int->WP}{w0 w}(hk: ∀v w',K v w'->Ext w0 w'->K' v w')(h:Ext w0 w)(k:CopyP s d x K w):CopyP s d x K' w:=by
 obtain⟨vs,h1,h2,h3⟩:=k
 exact⟨vs,h1,h2,hk _ _ h3 (h.stS _ _ _)⟩
theorem StT_ext {ty:Ty}{a:Addr}{v:Value}{K K':WP}{w0 w}(hk: ∀w',K w'->Ext w0 w'->K' w')(h:Ext w0 w)(k:StT ty a v K w):StT ty a v K' w:=by
 cases ty with
 |one s=>exact⟨k.1,k.2.1,k.2.2.1,hk _ k.2.2.2 (h.setCell _ _)⟩
 |agg l=>
  cases v<;>simp only[StT]at k|-
  rename_i vs
  cases hb:Nat.beq vs.toList.length l.length with
  |false=>rw[hb]at k;exact k.elim
  |true=>rw[hb]at k;exact⟨k.1,hk _ k.2 (Ext.setL h)⟩
theorem slOf_ext {K K':Value->WP}{w0}(hk: ∀v w',K v w'->Ext w0 w'->K' v w'): ∀v w',slOf K v w'->Ext w0 w'->slOf K' v w':=fun _ _=>hk _ _
theorem ptrOf_ext {K K':Value->WP}{w0}(hk: ∀v w',K v w'->Ext w0 w'->K' v w'): ∀v w',ptrOf K v w'->Ext w0 w'->ptrOf K' v w':=fun _ _=>hk _ _
theorem buildSliceStep_ext (t len:Nat)(ps:List (Nat×Option Value)):(buildSliceStep T t len ps).ext:=by
 unfold buildSliceStep
 split
 ·split
  ·rename_i s _ ty _
   cases Nat.ble (len*ty.size) 1000
   ·trivial
   ·simp only[cond_true]
    split
    ·exact fun K K' w0 w hk h k=>NewS_ext (slOf_ext hk) h k
    ·exact fun K K' w0 w hk h k=>⟨k.1,NewS_ext (slOf_ext hk) h k.2⟩
    ·trivial
  ·trivial
 ·trivial
theorem allocStep_ext (t:Nat):(allocStep T t).ext:=by
 unfold allocStep
 split
 ·exact fun K K' w0 w hk h k=>NewP_ext (ptrOf_ext hk) h k
 ·trivial
theorem boxStep_ext (t:Nat)(v:Value):(boxStep T t v).ext:=by
 unfold boxStep
 split
 ·rename_i ty _
  cases isVeiled ty
  ·exact fun K K' w0 w hk h k=>NewP_ext (ptrOf_ext hk) h k
  ·trivial
 ·trivial
theorem callStep_ext (e:Env)(c:Call)(t:Nat):(callStep P T e c t).ext:=by
 unfold callStep
 split
 ·trivial
 split
 ·split
  ·exact fun K K' w0 w hk h k=>upon_mono k fun _ _ ⟨e,x,hx,hk'⟩=>⟨e,x,hx,hk _ _ hk' (h.trans e)⟩
  ·trivial
 ·split
  ·exact fun K K' w0 w hk h k=>upon_mono k fun _ _ ⟨e,x,hx,hk'⟩=>⟨e,x,hx,hk _ _ hk' (h.trans e)⟩
  ·trivial
 ·split
  ·exact fun K K' w0 w hk h k=>upon_mono k fun _ _ ⟨e,x,hx,hk'⟩=>⟨e,x,hx,hk _ _ hk' (h.trans e)⟩
  ·trivial
 ·split
  ·repeat' first|trivial|split
  ·repeat' first|trivial|split
  ·split
   ·split
    ·exact fun K K' w0 w hk h k=>AppP_ext (slOf_ext hk) h k
    ·trivial
   ·trivial
  ·split
   ·split
    ·exact fun K K' w0 w hk h k=>CopyP_ext (fun x=>hk _) h k
    ·trivial
   ·trivial
  ·trivial
theorem convStep_ext (s d:Nat)(x:Value):(convStep T s d x).ext:=by
 unfold convStep
 split
 ·split
  ·split
   ·unfold convInt;split<;>trivial
   ·unfold convBytes
    split
    ·split
     ·rename_i si _
      cases isByte T si.e
      ·trivial
      ·exact fun K K' w0 w hk h k=>BytesP_ext (slOf_ext hk) h k
     ·trivial
    ·trivial
   ·unfold convStr
    split
    ·split
     ·rename_i si _
      cases isByte T si.e<;>trivial
     ·trivial
    ·trivial
   ·trivial
  ·trivial
 ·trivial
theorem stepOf_ext (e:Env)(o:Oper):(stepOf P T e o).ext:=by
 unfold stepOf
 split
 ·exact optv_ext _
 ·exact optv_ext _
 ·split
  ·exact optv_ext _
  ·trivial
 ·repeat' first|trivial|split
 ·split
  ·split
   ·rename_i ty _
    cases Nat.beq ty.size 0<;>trivial
   ·trivial
  ·trivial
 ·split
  ·split
   ·exact optv_ext _
   ·trivial
   ·trivial
  ·trivial
 ·repeat' first|trivial|split
 ·split
  ·exact fun K K' w0 w hk h k=>StT_ext (hk _) h k
  ·trivial
 ·split
  ·exact binStep_ext _ _ _ _ _
  ·trivial
 ·repeat' first|trivial|split
 ·split
  ·exact convStep_ext _ _ _
  ·trivial
 ·repeat' first|trivial|split
 ·repeat' first|trivial|split
 ·split
  ·exact fun K K' w0 w hk h k=>MakeP_ext (slOf_ext hk) h k
  ·trivial
 ·split
  ·exact sliceStep_ext _ _ _ _ _
  ·trivial
 ·split
  ·exact indexStep_ext _ _ _
  ·trivial
 ·split
  ·exact optv_ext _
  ·trivial
 ·exact buildStep_ext _ _
 ·exact buildSliceStep_ext _ _ _
 ·exact allocStep_ext _
 ·split
  ·exact boxStep_ext _ _
  ·trivial
 ·exact callStep_ext _ _ _
 ·trivial
theorem Ld_ext {t:Ty}{p:Addr}{K K':t.den->WP}{w}(hk: ∀x,K x w->K' x w)(k:Ld t p K w):Ld t p K' w:=by
 cases t<;>exact k.imp fun x h=>⟨h.1,hk _ h.2⟩
theorem doQuiet_ext {s:Step}{K K':Value->Option (WP)->WP}{w}(hk: ∀v o,K v o w->K' v o w)(k:doQuiet s K w):doQuiet s K' w:=by
 cases s with
 |val v=>exact hk _ _ k
 |req c v=>exact⟨k.1,hk _ _ k.2⟩
 |nil p=>exact k.imp fun b h=>⟨h.1,hk _ _ h.2⟩
 |ix c p f=>exact⟨k.1,k.2.imp fun b h=>⟨h.1,hk _ _ h.2⟩⟩
 |ld p t=>exact Ld_ext (fun x=>hk _ _) k
 |rd p n=>exact k.imp fun b h=>⟨h.1,hk _ _ h.2⟩
 |loud M=>exact k
 |bad=>exact k
theorem doStep_ext {s:Step}(hs:s.ext){K K':Value->WP}{w0 w}(hk: ∀v w',K v w'->Ext w0 w'->K' v w')(h:Ext w0 w)(k:doStep s K w):doStep s K' w:=by
 cases s with
 |loud M=>exact hs K K' w0 w hk h k
 |val v=>exact hk _ _ k h
 |req c v=>exact⟨k.1,hk _ _ k.2 h⟩
 |nil p=>exact Exists.imp (fun b hh=>⟨hh.1,hk _ _ hh.2 h⟩) k
 |ix c p f=>exact⟨k.1,Exists.imp (fun b hh=>⟨hh.1,hk _ _ hh.2 h⟩) k.2⟩
 |ld p t=>exact Ld_ext (fun x hx=>hk _ _ hx h) k
 |rd p n=>exact Exists.imp (fun b hh=>⟨hh.1,hk _ _ hh.2 h⟩) k
 |bad=>exact k
theorem guardIte_ext {ops:List Oper}{e:Env}{o:Oper}{A B A' B':Env->WP}{w}(ha: ∀e,A e w->A' e w)(hb: ∀e,B e w->B' e w)(k:guardIte ops e o A B w):guardIte ops e o A' B' w:=by
 cases hg:o.guard with
 |none=>simp only[guardIte,hg]at k|-;exact ha _ k
 | some p =>
  obtain⟨g,want⟩:=p
  cases hd:dstOf ops g with
  |none=>simp only[guardIte,hg,hd]at k
  | some d =>
   cases hv:e.get d with
   |none=>simp only[guardIte,hg,hd,hv]at k
   | some v =>
    cases v<;>simp only[guardIte,hg,hd,hv]at k|- <;>first|exact hb _ k|skip
    split
    ·rename_i hbw
     rw[if_pos hbw]at k;exact ha _ k
    ·rename_i hbw
     rw[if_neg hbw]at k;exact hb _ k
theorem trSeq_ext {ops:List Oper}{K K':Env->WP}{w0}(hk: ∀e w',K e w'->Ext w0 w'->K' e w'): ∀(l:List Oper) (e:Env) (w:World),Ext w0 w->trSeq P T n ops l e K w->trSeq P T n ops l e K' w
 | [],e,w,h,k=>hk e w k h
 |o::rest,e,w,h,k=>guardIte_ext (fun e k=>doStep_ext (stepOf_ext e o) (fun v w' k h=>trSeq_ext hk rest _ _ h k) h k) (fun e k=>trSeq_ext hk rest _ _ h k) k
theorem stabL_ext {p q:WP}{w}(h:p w->q w): ∀(fl:Fl),stabL fl p w->stabL fl q w
 | [],k=>h k
 |_::r,k=>⟨k.1,stabL_ext h r k.2⟩
theorem conjL_ext {α:Type}{f g:α->WP}{w}(h: ∀x,f x w->g x w): ∀(l:List α),conjL (l.map f) w->conjL (l.map g) w
 | [],k=>k
 | [x],k=>h x k
 |x::y::r,k=>⟨h x k.1,conjL_ext h (y::r) k.2⟩
theorem trDraw_ext {ops:List Oper}{ms:List Nat}{K K':Env->WP}{w0}(hk: ∀e w',K e w'->Ext w0 w'->K' e w'): ∀(f m:Nat) (e:Env) (fl:Fl) (w:World),Ext w0 w->trDraw P T n ops ms K f m e fl w->trDraw P T n ops ms K' f m e fl w
 |0,m,e,fl,w,h,k=>hk e w k h
 | f + 1, m, e, fl, w, h, k => by
  cases hj:nexts ms m ops 0 with
  |nil=>simp only[trDraw,hj]at k|-;exact hk e w k h
  | cons y js =>
   cases hq:firstQuiet T (y::js)with
   |some jo=>
    obtain⟨j,o⟩:=jo
    simp only[trDraw,hj,hq]at k|-
    exact guardIte_ext (fun e k=>doQuiet_ext (fun v oh k=>trDraw_ext hk f _ _ _ _ h k) k) (fun e k=>trDraw_ext hk f _ _ _ _ h k) k
   | none =>
    simp only[trDraw,hj,hq]at k|-
    refine conjL_ext (fun jo k=>guardIte_ext (fun e k=>?_) (fun e k=>trDraw_ext hk f _ _ _ _ h k) k) _ k
    have hs:=stepOf_ext (P:=P) (T:=T) e jo.2
    cases hM:stepOf P T e jo.2 with
    |loud M=>
     rw[hM]at hs
     simp only[hM]at k|-
     exact hs _ _ w0 w (fun v w' k h=>stabL_ext (fun k=>trDraw_ext hk f _ _ _ _ h k) _ k) h k
    |_=>simp only[hM]at k
theorem S.dec_ext {s:S}{v:Value}{K K':s.den->Prop}(hk: ∀x,K x->K' x)(k:s.dec v K):s.dec v K':=by
 cases s<;>cases v<;>simp only[S.dec]at k|- <;>first
  |exact k.elim
  |exact hk _ k
  |(rename_i p;cases p<;>simp only[S.dec]at k|-;exact hk _ k)
  |(split at k<;>rename_i e<;>first|(rw[if_pos e];exact hk _ k)|exact k.elim)
  |exact Exists.imp (fun _ h=>⟨h.1,hk _ h.2⟩) k
theorem decs_ext : ∀{l:List S} {vs:List Value} {K K':dens l->Prop},(∀x,K x->K' x)->decs l vs K->decs l vs K'
 | [],vs,K,K',hk,h=>by cases vs<;>simp only[decs]at h|-;exact hk _ h
 | [s],vs,K,K',hk,h=>by
  rcases vs with _|⟨v,_|⟨u,r⟩⟩<;>simp only[decs]at h|-
  exact S.dec_ext hk h
 |s::t::l,vs,K,K',hk,h=>by
  rcases vs with _|⟨v,r⟩<;>simp only[decs]at h|-
  exact S.dec_ext (fun x hx=>decs_ext (fun y=>hk _) hx) h
theorem Ty.dec_ext {t:Ty}{v:Value}{K K':t.den->Prop}(hk: ∀x,K x->K' x)(k:t.dec v K):t.dec v K':=by
 cases t with
 |one s=>exact S.dec_ext hk k
 |agg l=>
  cases v<;>simp only[Ty.dec]at k|-
  exact decs_ext hk k
theorem tdecs_ext : ∀{l:List Ty} {vs:List (Option Value)} {K K':tden l->Prop},(∀x,K x->K' x)->tdecs l vs K->tdecs l vs K'
 | [],vs,K,K',hk,h=>by cases vs<;>simp only[tdecs]at h|-;exact hk _ h
 | [s],vs,K,K',hk,h=>by
  rcases vs with _|⟨_|v,_|⟨u,r⟩⟩<;>simp only[tdecs]at h|-
  exact Ty.dec_ext hk h
 |s::t::l,vs,K,K',hk,h=>by
  rcases vs with _|⟨_|v,r⟩<;>simp only[tdecs]at h|-
  exact Ty.dec_ext (fun x hx=>tdecs_ext (fun y=>hk _) hx) h
theorem seqK_ext {K K':EK}{k k':Env->WP}{w0}(hk: ∀ex e w',K ex e w'->Ext w0 w'->K' ex e w')(hk2: ∀e w',k e w'->Ext w0 w'->k' e w'): ∀ex e w',seqK K k ex e w'->Ext w0 w'->seqK K' k' ex e w':=by
 intro ex e w' h he
 cases ex<;>simp only[seqK]at h|- <;>first|exact hk2 _ _ h he|exact hk _ _ _ h he|exact h.elim
theorem tr_ext {w0}: ∀(an:Ann) (c:Code) (e:Env) (K K':EK) (w:World),(∀ex e w',K ex e w'->Ext w0 w'->K' ex e w')->Ext w0 w->tr P T n an c e K w->tr P T n an c e K' w
 | .leaf,c,e,K,K',w,hk,h,k=>by
  cases c<;>simp only[tr]at k|- <;>first|exact hk _ _ _ k h|exact k.elim|skip
  rename_i id ops draw
  cases draw
  ·exact trSeq_ext (fun e w'=>hk _ e w') _ _ _ h k
  ·exact trDraw_ext (fun e w'=>hk _ e w') _ _ _ _ _ h.drew k
 | .seq a b,c,e,K,K',w,hk,h,k=>by
  cases c<;>simp only[tr]at k|- <;>first|exact k.elim|skip
  exact tr_ext a _ _ _ _ _ (seqK_ext hk fun e w' k h=>tr_ext b _ _ _ _ _ hk h k) h k
 | .cond a b, c, e, K, K', w, hk, h, k => by
  cases c<;>simp only[tr]at k|- <;>first|exact k.elim|skip
  rename_i c x y
  cases hv:e.ev c with
  |none=>simp only[hv]at k
  | some v =>
   cases v<;>simp only[hv]at k|-
   split
   ·rename_i htt
    rw[if_pos htt]at k;exact tr_ext a _ _ _ _ _ hk h k
   ·rename_i htt
    rw[if_neg htt]at k;exact tr_ext b _ _ _ _ _ hk h k
 | .block a,c,e,K,K',w,hk,h,k=>by
  cases c<;>simp only[tr]at k|- <;>first|exact k.elim|skip
  rename_i id x
  refine tr_ext a _ _ _ _ _ (fun ex e w' hb he=>?_) h k
  cases ex<;>simp only[blockK]at hb|- <;>first|exact hk _ _ _ hb he|exact hb.elim|skip
  rename_i id'
  cases hq:Nat.beq id' id<;>rw[hq]at hb<;>exact hk _ _ _ hb he
 | .loop slots a,c,e,K,K',w,hk,h,k=>by
  cases c<;>simp only[tr]at k|- <;>first|exact k.elim|skip
  rename_i x
  refine tdecs_ext (fun s0 k=>?_) k
  obtain⟨I,⟨m,hm⟩,hI⟩:=k
  refine⟨fun m y w=>I m y w/\Ext w0 w,⟨m,hm,h⟩,fun m y w ⟨h1,h2⟩=>?_⟩
  refine tr_ext a _ _ _ _ _ (seqK_ext hk fun e w' k he=>tdecs_ext (fun s' k=>?_) k) h2 (hI m y w h1)
  obtain⟨m',hm',hi⟩:=k
  exact⟨m',hm',hi,he⟩
 | .join slots a,c,e,K,K',w,hk,h,k=>by
  simp only[tr]at k|-
  obtain⟨J,hJ,hb⟩:=k
  refine⟨fun x w=>J x w/\Ext w0 w,fun x w ⟨h1,h2⟩=>hk _ _ _ (hJ x w h1) h2,?_⟩
  exact tr_ext a _ _ _ _ _ (seqK_ext hk fun e w' k he=>tdecs_ext (fun s' k=>⟨k,he⟩) k) h hb
theorem resP_ext {e:Env}{w}: ∀(rs:List ResultVar) {k k':List (Option Value)->WP},(∀vs,k vs w->k' vs w)->resP T e rs k w->resP T e rs k' w
 | [],k,k',hk,h=>hk _ h
 | .tmp t::r,k,k',hk,h=>by
  simp only[resP]at h|-
  cases hg:e.get t with
  |none=>rw[hg]at h;exact h.elim
  |some v=>rw[hg]at h;exact resP_ext r (fun vs=>hk _) h
 | .cell x t :: r, k, k', hk, h => by
  cases hg:e.get x with
  |none=>simp only[resP,hg]at h
  | some v =>
   cases v with
   | pointer p =>
    cases p with
    |none=>simp only[resP,hg]at h
    | some p =>
     cases ht:T.ty t with
     |none=>simp only[resP,hg,ht]at h
     |some ty=>
      simp only[resP,hg,ht]at h|-
      exact Ld_ext (fun y hy=>resP_ext r (fun vs=>hk _) hy) h
   |_=>simp only[resP,hg]at h
theorem trF_ext {fn:Func}{an:Ann}{args:List Value}{R:List Ty}{K:tden R->WP}{w}(h:trF P T fn an args R K w):trF P T fn an args R (fun x w'=>K x w'/\Ext w w') w:=by
 cases hc:fn.body with
 |none=>simp only[trF,hc]at h
 |some c=>
  simp only[trF,hc]at h|-
  refine tr_ext (w0:=w) an c _ _ _ _ (fun ex e w' k he=>?_) (Ext.refl w) h
  cases ex<;>simp only[finK]at k|- <;>first|exact k.elim|exact resP_ext _ (fun vs k=>tdecs_ext (fun x k=>⟨k,he⟩) k) k
def okF (fn:Func)(k:Nat):Bool:=(match fn.body with|some c=>codeOk c|none=>false)&& !(fn.name== "runtime.NumGoroutine")&&Nat.ble k fn.ntmps
theorem calls_of_trF (hC:Ctx P T)(hm:P.follows .mixedOrders=true){f:Nat}{fn:Func}(hf:P.funcs[f]? =some fn)(an:Ann){args:List Value}(hok:okF fn args.length=true){R:List Ty}{K:tden R->WP}{w}(h:trF P T fn an args R K w):
  Calls P f args.toArray w (RetP R fun x w'=>K x w'/\Ext w w'):=by
 simp only[okF,Bool.and_eq_true]at hok
 cases hb:fn.body with
 |none=>rw[hb]at hok;exact nomatch hok.1.1
 |some c=>
  rw[hb]at hok
  exact calls_of_tr hC hm hf hb hok.1.1 an (Nat.le_of_ble_eq_true hok.2) (trF_ext h)
theorem callF_of {f:Nat}{fn:Func}(hf:P.funcs[f]? =some fn)(hb:fn.body.isSome=true)(hnm:(fn.name== "runtime.NumGoroutine")=false){args:List Value}{R:List Ty}{K:tden R->WP}{w}
  (h:Calls P f args.toArray w (RetP R fun x w'=>K x w'/\Ext w w')):CallF P f args R K w:=by
 unfold CallF
 have hn:fn.body.isNone=false:=by cases hb':fn.body<;>simp_all
 have e:(callFunc f args.toArray).run P w= .ok (.enter f args.toArray) w:=by
  simp only[callFunc,Sem.run_bind,run_program,Result.andThen_ok,hf,hnm,hn]
  rfl
 rw[e]
 refine Calls.mono h fun e w' he=>?_
 cases e with
 |returned v=>
  obtain⟨x,hx,hk,he⟩:=he
  exact⟨he,x,hx,hk⟩
 |_=>exact he
theorem callF_of_trF (hC:Ctx P T)(hm:P.follows .mixedOrders=true){f:Nat}{fn:Func}(hf:P.funcs[f]? =some fn)(an:Ann){args:List Value}(hok:okF fn args.length=true){R:List Ty}{K:tden R->WP}{w}(h:trF P T fn an args R K w):
  CallF P f args R K w:=by
 have hc:=calls_of_trF hC hm hf an hok h
 simp only[okF,Bool.and_eq_true,Bool.not_eq_true']at hok
 exact callF_of hf (by cases hb:fn.body with|none=>rw[hb]at hok;exact nomatch hok.1.1|some c=>rfl) hok.1.2 hc
end
end Go.Tr
