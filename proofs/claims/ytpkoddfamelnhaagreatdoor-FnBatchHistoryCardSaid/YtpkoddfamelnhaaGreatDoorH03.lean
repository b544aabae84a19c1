/- Part 3 of the proof of fnBatchHistory_card. Conditions: none. -/
import Derived.Test.YtpkoddfamelnhaaGreatDoorH02
import Derived.Orders
set_option linter.unusedVariables false
set_option linter.unusedSimpArgs false
namespace Go.Tr
def dstOf (ops:List Oper)(g:Nat):Option Nat:=(ops[g]?).bind (·.dst)
def guardIte (ops:List Oper)(e:Env)(o:Oper)(A B:Env->WP):WP:=
 match o.guard with
 |none=>A e
 | some (g, want) => match dstOf ops g with
  |some d=>match e.get d with
   |some (.bool b)=>fun w=>if b=want then A ((d,.bool want)::e) w else B ((d,.bool (!want))::e) w
   |some (.tuple _)=>B e
   |_=>fun _=>False
  |none=>fun _=>False
def doQuiet (s:Step)(K:Value->Option (WP)->WP):WP:=
 match s with
 | .val v=>K v none
 | .req c v=>fun w=>c/\K v none w
 | .nil p=>fun w=> ∃b,p=some b/\K (.pointer (some b)) none w
 | .ix c p f=>fun w=>c/\ ∃b,p=some b/\K (f b) none w
 | .ld p t=>Ld t p fun x=>K (t.enc x) (some (LdAt t p x))
 | .rd p n=>fun w=> ∃s,RdB w p n s/\K (.string s) (some fun w=>RdB w p n s) w
 | .loud _=>fun _=>False
 | .bad=>fun _=>False
def doStep (s:Step)(K:Value->WP):WP:=
 match s with
 | .loud M=>M K
 |s=>doQuiet s fun v _=>K v
def trSeq (P:Program)(T:Tab)(n:Nat)(ops:List Oper):List Oper->Env->(Env->WP)->WP
 | [],e,K=>K e
 | o :: rest, e, K => guardIte ops e o (fun e => doStep (stepOf P T e o) fun v => trSeq P T n ops rest (e.put n o.dst v) K)
   (fun e=>trSeq P T n ops rest (e.put n o.dst undef) K)
section
variable {P : Program} {T : Tab} {n : Nat}
def wantedAt (ops:List Oper)(o:Oper)(a:Act):Bool:=Region.wanted o (yielded ops.toArray a.tmps)
theorem yielded_eq {ops:List Oper}{tmps:Array Value}{g d:Nat}(hd:dstOf ops g=some d):yielded ops.toArray tmps g=match tmps[d]? with|some (.bool b)=>some b|_=>none:=by
 unfold yielded
 have:((ops.toArray[g]?).bind (·.dst))=some d:=by simpa [dstOf]using hd
 rw[this]
 rfl
theorem getD_of {a:Act}{d:Nat}{v:Value}(h:a.tmps.getD d undef=v)(hv:v≠undef):a.tmps[d]? =some v:=by
 rw[Array.getD_eq_getD_getElem?]at h
 cases hd:a.tmps[d]? with
 |none=>rw[hd]at h;exact absurd h.symm hv
 |some u=>rw[hd]at h;simpa using h
theorem guard_cases {ops:List Oper}{e:Env}{o:Oper}{A B:Env->WP}{a:Act}{w}(hag:Agree n e a)(h:guardIte ops e o A B w):
  (wantedAt ops o a=true/\ ∃e',Agree n e' a/\A e' w)\/(wantedAt ops o a=false/\ ∃e',Agree n e' a/\B e' w):=by
 cases hg:o.guard with
 |none=>
  simp only[guardIte,hg]at h
  exact .inl ⟨by simp[wantedAt,Region.wanted,hg],e,hag,h⟩
 | some gw =>
  obtain⟨g,want⟩:=gw
  simp only[guardIte,hg]at h
  cases hd:dstOf ops g with
  |none=>simp only[hd]at h
  | some d =>
   simp only[hd]at h
   cases hb:e.get d with
   |none=>simp only[hb]at h
   | some v =>
    simp only[hb]at h
    have hget:=hag.get d _ hb
    cases v with
    | bool b =>
     simp only at h
     have hsome:a.tmps[d]? =some (.bool b):=getD_of hget (by simp[undef])
     have hy:yielded ops.toArray a.tmps g=some b:=by rw[yielded_eq hd,hsome]
     have hcons: ∀v,a.tmps.getD d undef=v->Agree n ((d,v)::e) a:=by
      intro v hv
      refine⟨hag.size,hag.defers,fun i u hu=>?_⟩
      by_cases hi:d=i
      ·subst hi
       rw[Env.get_cons_self,Option.some.injEq]at hu
       rw[<-hu];exact hv
      ·rw[Env.get_cons_ne e v hi]at hu
       exact hag.get i u hu
     by_cases hbw:b=want
     ·rw[if_pos hbw]at h
      subst hbw
      exact .inl ⟨by simp[wantedAt,Region.wanted,hg,hy],_,hcons _ hget,h⟩
     ·rw[if_neg hbw]at h
      have hb':b= !want:=by cases b<;>cases want<;>simp_all
      subst hb'
      exact .inr ⟨by simp[wantedAt,Region.wanted,hg,hy],_,hcons _ hget,h⟩
    | tuple vs =>
     refine .inr ⟨?_,e,hag,h⟩
     have hy:yielded ops.toArray a.tmps g=none:=by
      rw[yielded_eq hd]
      rw[Array.getD_eq_getD_getElem?]at hget
      cases hd':a.tmps[d]? with
      |none=>rfl
      |some u=>rw[hd']at hget;simp only[Option.getD_some]at hget;rw[hget]
     simp[wantedAt,Region.wanted,hg,hy]
    |_=>exact h.elim
def Yld (P:Program)(ops:List Oper)(o:Oper)(v:Value)(h:WP)(a:Act):Prop:=
 (wantedAt ops o a=true/\ ∀w,h w->(execOp a.eval o).run P w= .ok (.value v) w)\/(wantedAt ops o a=false/\v=undef)
theorem quiet_cases {o:Oper}{a:Act}{s:Step}(hs:Step.ok P o a s){K:Value->Option (WP)->WP}{w}(h:doQuiet s K w):
  ∃v hh,(∀w',(match hh with|none=>True|some p=>p w')->(execOp a.eval o).run P w'= .ok (.value v) w')/\(match hh with|none=>True|some p=>p w)/\K v hh w:=by
 cases s with
 |val v=>exact⟨v,none,fun w' _=>hs w',trivial,h⟩
 |req c v=>exact⟨v,none,fun w' _=>hs h.1 w',trivial,h.2⟩
 |nil p=>obtain⟨b,hb,hk⟩:=h;exact⟨_,none,fun w' _=>hs b hb w',trivial,hk⟩
 |ix c p f=>obtain⟨hc,b,hb,hk⟩:=h;exact⟨_,none,fun w' _=>hs hc b hb w',trivial,hk⟩
 |ld p t=>obtain⟨x,hx,hk⟩:=Ld_elim h;exact⟨_,some (LdAt t p x),fun w' hw=>hs x w' hw,hx,hk⟩
 |rd p m=>obtain⟨s,hx,hk⟩:=h;exact⟨_,some (fun w=>RdB w p m s),fun w' hw=>hs s w' hw,hx,hk⟩
 |loud M=>exact h.elim
 |bad=>exact h.elim
theorem wp_of_uponV {o:Oper}{a:Act}{w}{next:Act->WP}{Q:Exit->Act->WP}
  (h:uponV P ((execOp a.eval o).run P w) fun v w'=>next (a.put o.dst v) w'):o.wp P a w next Q:=by
 unfold Oper.wp
 generalize(execOp a.eval o).run P w=r at h
 cases r with
 | ok m w' =>
  cases m<;>simp only[uponV]at h<;>simp only[Oper.upon]<;>first
   |exact h
   |exact h.elim
   |exact Calls.mono h (fun e w'' he=>by cases e<;>first|exact he|exact he.elim)
 |halt x w'=>exact h.elim
theorem step_wp {o:Oper}{a:Act}{s:Step}(hs:Step.ok P o a s){K:Value->WP}{w}{next:Act->WP}{Q:Exit->Act->WP}
  (h:doStep s K w) (hn: ∀v w',K v w'->next (a.put o.dst v) w'):o.wp P a w next Q:=by
 by_cases hl: ∃M,s= .loud M
 ·obtain⟨M,rfl⟩:=hl
  exact wp_of_uponV (uponV_mono (hs K w h) hn)
 ·have hq:doQuiet s (fun v _=>K v) w:=by cases s<;>first|exact h|exact absurd ⟨_,rfl⟩ hl
  obtain⟨v,hh,hy,hw,hk⟩:=quiet_cases hs hq
  refine wp_of_uponV ?_
  rw[hy w hw]
  exact hn _ _ hk
def dsts (ops:List Oper):List Nat:=ops.filterMap (·.dst)
theorem trSeq_sound (hC:Ctx P T)(ops:List Oper){Q:Exit->Act->WP}(D:List Nat): ∀(l:List Oper),(∀d∈dsts l,d∈D)-> ∀(e:Env) (a:Act) (w:World) (K:Env->WP),
  Agree n e a->(∀e' a' w',Agree n e' a'->Same D a a'->K e' w'->Q .normal a' w')->trSeq P T n ops l e K w->wpList P ops.toArray Q l a w
 | [],_,e,a,w,K,hag,hK,h=>hK e a w hag (Same.refl _ _) h
 | o :: rest, hD, e, a, w, K, hag, hK, h => by
  have hD': ∀d∈dsts rest,d∈D:=fun d hd=>hD d (by simp only[dsts,List.filterMap_cons];split<;>simp_all [dsts])
  have hod: ∀i,o.dst=some i->i∈D:=fun i hi=>hD i (by simp[dsts,List.filterMap_cons,hi])
  have next: ∀e' v w',Agree n e' a->trSeq P T n ops rest (e'.put n o.dst v) K w'->wpList P ops.toArray Q rest (a.put o.dst v) w':=by
   intro e' v w' hag' h'
   exact trSeq_sound hC ops D rest hD' _ _ _ K (hag'.put _ _) (fun e'' a'' w'' h1 h2 h3=>hK e'' a'' w'' h1 ((Same.put a o.dst v hod).trans h2) h3) h'
  unfold wpList
  rcases guard_cases hag h with⟨hw,e',hag',h'⟩|⟨hw,e',hag',h'⟩
  ·rw[show Region.wanted o (yielded ops.toArray a.tmps)=true from hw,if_pos rfl]
   refine .inl (step_wp (stepOf_ok hC hag' o) h' fun v w' hk=>next e' v w' hag' hk)
  ·rw[show Region.wanted o (yielded ops.toArray a.tmps)=false from hw,if_neg (by simp)]
   exact next e' undef w hag' h'
end
theorem getD_app {a b:List Nat}{k:Nat}(h:k<a.length):(a++b).getD k 0=a.getD k 0:=by simp[List.getD,List.getElem?_append_left h]
theorem getD_ge {a:List Nat}{k:Nat}(h:a.length<=k):a.getD k 0=0:=by simp[List.getD,List.getElem?_eq_none h]
abbrev Fl :=List (Nat×(WP))
def dirs (o:Oper):List Nat:=o.after.toList.filterMap fun e=>if Region.binds .any e then some e.on else none
def befOf (acc:List Nat)(ds:List Nat):Nat:=ds.foldl (fun s d=>s|||2^d|||acc.getD d 0) 0
def befsGo :List Oper->List Nat->List Nat
 | [],acc=>acc
 |o::os,acc=>befsGo os (acc++[befOf acc (dirs o)])
def befs (ops:List Oper):List Nat:=befsGo ops []
theorem befOf_test (acc:List Nat)(i:Nat): ∀(ds:List Nat) (s:Nat),(ds.foldl (fun s d=>s|||2^d|||acc.getD d 0) s).testBit i=true↔
  s.testBit i=true\/ ∃d∈ds,i=d\/(acc.getD d 0).testBit i=true
 | [],s=>by simp
 | d :: ds, s => by
  rw[List.foldl_cons,befOf_test acc i ds]
  simp only[Nat.testBit_or,Bool.or_eq_true,Nat.testBit_two_pow,decide_eq_true_eq,List.mem_cons]
  constructor
  ·rintro((h|h)|h)
   ·rcases h with h|h
    ·exact .inl h
    ·exact .inr ⟨d,.inl rfl,.inl h.symm⟩
   ·exact .inr ⟨d,.inl rfl,.inr h⟩
   ·obtain⟨x,hx,h⟩:=h;exact .inr ⟨x,.inr hx,h⟩
  ·rintro(h|⟨x,rfl|hx,h⟩)
   ·exact .inl (.inl (.inl h))
   ·rcases h with rfl|h
    ·exact .inl (.inl (.inr rfl))
    ·exact .inl (.inr h)
   ·exact .inr ⟨x,hx,h⟩
theorem befsGo_get : ∀ (ops : List Oper) (acc : List Nat) (j : Nat), j < acc.length + ops.length ->
    ∃ pre : List Nat, pre.length = (if j < acc.length then acc.length else j) /\ (∀ k, k < pre.length -> (befsGo ops acc).getD k 0 = pre.getD k 0) /\
      (acc.length<=j-> ∃o,ops[j-acc.length]? =some o/\(befsGo ops acc).getD j 0=befOf pre (dirs o))/\(befsGo ops acc).length=acc.length+ops.length
  | [], acc, j, h => by
    simp only[List.length_nil,Nat.add_zero]at h
    exact⟨acc,by rw[if_pos h],fun k _=>rfl,fun h'=>absurd h om,by simp[befsGo]⟩
  | o :: os, acc, j, h => by
    simp only[List.length_cons]at h
    obtain⟨pre,hl,hp,ho,hlen⟩:=befsGo_get os (acc++[befOf acc (dirs o)]) j (by simp;omega)
    simp only[List.length_append,List.length_cons,List.length_nil]at hl ho hlen
    refine⟨if j<=acc.length then acc else pre,?_,?_,?_,by simp only[befsGo,hlen,List.length_cons];omega⟩
    · by_cases h1:j<acc.length
      · rw[if_pos om,if_pos h1]
      · by_cases h2:j=acc.length
        · rw[if_pos om,if_neg h1,h2]
        · rw[if_neg om,if_neg h1,hl,if_neg om]
    · intro k hk
      by_cases h1:j<=acc.length
      · rw[if_pos h1]at hk|-
        have hpl:k<pre.length:=by rw[hl];split<;>omega
        show(befsGo os (acc++[befOf acc (dirs o)])).getD k 0=_
        have hb:=befsGo_acc os (acc++[befOf acc (dirs o)]) k (by simp;omega)
        rw[hb,getD_app hk]
      · rw[if_neg h1]at hk|-
        exact hp k hk
    · intro h1
      by_cases h2:j=acc.length
      · subst h2
        refine⟨o,by simp,?_⟩
        rw[if_pos (Nat.le_refl _)]
        show(befsGo os (acc++[befOf acc (dirs o)])).getD acc.length 0=_
        rw[befsGo_acc os _ _ (by simp)]
        simp[List.getD]
      · rw[if_neg om]
        obtain⟨o',ho',hv⟩:=ho om
        refine⟨o',?_,hv⟩
        rw[show j-acc.length=(j-(acc.length+1))+1 by omega,List.getElem?_cons_succ]
        exact ho'
 where
  befsGo_acc: ∀(ops:List Oper) (acc:List Nat) (k:Nat),k<acc.length->(befsGo ops acc).getD k 0=acc.getD k 0
    | [],acc,k,_=>rfl
    | o :: os, acc, k, h => by
      show(befsGo os (acc++[befOf acc (dirs o)])).getD k 0=_
      rw[befsGo_acc os _ k (by simp;omega),getD_app h]
theorem befs_test {ops:List Oper}{j i:Nat}{o:Oper}(ho:ops[j]? =some o)(h:((befs ops).getD j 0).testBit i=true):
  ∃d∈dirs o,i=d\/(d<j/\((befs ops).getD d 0).testBit i=true):=by
 have hj:j<ops.length:=by
  rcases Nat.lt_or_ge j ops.length with h|h
  ·exact h
  ·rw[List.getElem?_eq_none h]at ho;cases ho
 obtain⟨pre,hl,hp,hv,_⟩:=befsGo_get ops [] j (by simpa using hj)
 obtain⟨o',ho',hv⟩:=hv (by simp)
 simp only[List.length_nil,Nat.sub_zero,Nat.not_lt_zero,if_false]at ho' hl
 rw[ho]at ho'
 obtain rfl:=Option.some.inj ho'
 have hv:(befs ops).getD j 0=befOf pre (dirs o):=hv
 rw[hv]at h
 rcases(befOf_test pre i (dirs o) 0).1 h with h|⟨d,hd,h⟩
 ·simp at h
 ·refine⟨d,hd,h.imp id fun h=>?_⟩
  have hdl:d<pre.length:=by
   rcases Nat.lt_or_ge d pre.length with h'|h'
   ·exact h'
   ·rw[getD_ge h']at h;simp at h
  have hp':(befs ops).getD d 0=pre.getD d 0:=hp d hdl
  exact⟨by omega,by rw[hp'];exact h⟩
theorem befs_dir {ops:List Oper}{j d:Nat}{o:Oper}(ho:ops[j]? =some o)(h:d∈dirs o):((befs ops).getD j 0).testBit d=true:=by
 have hj:j<ops.length:=by
  rcases Nat.lt_or_ge j ops.length with h|h
  ·exact h
  ·rw[List.getElem?_eq_none h]at ho;cases ho
 obtain⟨pre,hl,hp,hv,_⟩:=befsGo_get ops [] j (by simpa using hj)
 obtain⟨o',ho',hv⟩:=hv (by simp)
 simp only[List.length_nil,Nat.sub_zero]at ho'
 rw[ho]at ho'
 obtain rfl:=Option.some.inj ho'
 have hv:(befs ops).getD j 0=befOf pre (dirs o):=hv
 rw[hv]
 exact(befOf_test pre d (dirs o) 0).2 (.inr ⟨d,h,.inl rfl⟩)
def Rdy (ops:List Oper)(m j:Nat):Prop:=m.testBit j=false/\ ∃o,ops[j]? =some o/\ ∀d∈dirs o,m.testBit d=true
def Down (ops:List Oper)(m:Nat):Prop:= ∀j o,m.testBit j=true->ops[j]? =some o-> ∀d∈dirs o,m.testBit d=true
theorem Down.bits {ops:List Oper}{m:Nat}(hd:Down ops m): ∀(j i:Nat) (o:Oper),ops[j]? =some o->(∀d∈dirs o,m.testBit d=true)->((befs ops).getD j 0).testBit i=true->m.testBit i=true:=by
 intro j
 induction j using Nat.strongRecOn with
 | _ j ih =>
  intro i o ho hall hi
  obtain⟨d,hdm,rfl|⟨hlt,hb⟩⟩:=befs_test ho hi
  ·exact hall _ hdm
  ·have hmd:=hall d hdm
   cases hod:ops[d]? with
   | none =>
    have:(befs ops).getD d 0=0:=by
     apply getD_ge
     obtain⟨_,_,_,_,hlen⟩:=befsGo_get ops [] j (by
      rcases Nat.lt_or_ge j ops.length with h|h
      ·simpa using h
      ·rw[List.getElem?_eq_none h]at ho;cases ho)
     show(befsGo ops []).length<=d
     rw[hlen]
     simpa using List.getElem?_eq_none_iff.1 hod
    rw[this]at hb
    simp at hb
   |some od=>exact ih d hlt i od hod (hd d od hmd hod) hb
def flAt (ms:List Nat)(fl:Fl)(j:Nat):Fl:=fl.filter fun x=> !((ms.getD j 0).testBit x.1)
section
variable {P : Program} {T : Tab} {n : Nat}
def wpF (P:Program)(ops:List Oper)(Q:Exit->Act->WP):Nat->Fl->Nat->Act->WP
 |0,_,m,a,w=>(∀j,¬Rdy ops m j)/\Q .normal a w
 | f + 1, fl, m, a, w => ((∀ j, ¬ Rdy ops m j) -> Q .normal a w) /\ ∀ j, Rdy ops m j ->
   wpOp P ops.toArray Q j (fun a' w'=>(∀x∈flAt (befs ops) fl j,x.2 w')/\wpF P ops Q f (flAt (befs ops) fl j) (m|||2^j) a' w') a w
theorem flAt_sub {ms:List Nat}{fl fl':Fl}{j:Nat}(h: ∀x∈fl,x∈fl'): ∀x∈flAt ms fl j,x∈flAt ms fl' j:=by
 intro x hx
 simp only[flAt,List.mem_filter]at hx|-
 exact⟨h x hx.1,hx.2⟩
theorem wpF_sub {ops:List Oper}{Q:Exit->Act->WP}: ∀(f:Nat) (fl fl':Fl) (m:Nat) (a:Act) (w:World),(∀x∈fl',x∈fl)->wpF P ops Q f fl m a w->wpF P ops Q f fl' m a w
 |0,_,_,_,_,_,_,h=>h
 |f+1,fl,fl',m,a,w,hs,h=>⟨h.1,fun j hj=>wpOp_mono (fun _ _ hh=>⟨fun x hx=>hh.1 x (flAt_sub hs x hx),wpF_sub f _ _ _ _ _ (flAt_sub hs) hh.2⟩) (h.2 j hj)⟩
def apOk (ops:List Oper)(ms:List Nat):Bool:=
 (List.range ops.length).all fun j => match ops[j]? with
  |none=>true
  |some oj=>(match oj.op with| .select _ _=>false|_=>true)&&(List.range j).all fun i=>(ms.getD j 0).testBit i||(match ops[i]? with|some oi=>Oper.apart ops.toArray oi oj&&Oper.apart ops.toArray oj oi|none=>true)
theorem apOk_select {ops:List Oper}{ms:List Nat}(h:apOk ops ms=true){j:Nat}{o:Oper}(ho:ops[j]? =some o): ∀cs b,o.op≠ .select cs b:=by
 have hj:j<ops.length:=(List.getElem?_eq_some_iff.1 ho).1
 have:=List.all_eq_true.1 h j (List.mem_range.2 hj)
 rw[ho]at this
 intro cs b hcs
 simp[hcs]at this
theorem apOk_apart {ops:List Oper}{ms:List Nat}(h:apOk ops ms=true){i j:Nat}{oi oj:Oper}(hi:ops[i]? =some oi)(hj:ops[j]? =some oj)(hne:i≠j)
  (hij:(ms.getD j 0).testBit i=false) (hji:(ms.getD i 0).testBit j=false):Oper.apart ops.toArray oi oj=true:=by
 have hil:i<ops.length:=(List.getElem?_eq_some_iff.1 hi).1
 have hjl:j<ops.length:=(List.getElem?_eq_some_iff.1 hj).1
 rcases Nat.lt_or_gt_of_ne hne with hlt|hgt
 ·have:=List.all_eq_true.1 h j (List.mem_range.2 hjl)
  rw[hj]at this
  simp only[Bool.and_eq_true]at this
  have:=List.all_eq_true.1 this.2 i (List.mem_range.2 hlt)
  rw[hij,hi]at this
  simp only[Bool.false_or,Bool.and_eq_true]at this
  exact this.1
 ·have:=List.all_eq_true.1 h i (List.mem_range.2 hil)
  rw[hi]at this
  simp only[Bool.and_eq_true]at this
  have:=List.all_eq_true.1 this.2 j (List.mem_range.2 hgt)
  rw[hji,hj]at this
  simp only[Bool.false_or,Bool.and_eq_true]at this
  exact this.2
theorem wpOp_swap {ops:List Oper}{Q:Exit->Act->WP}{j:Nat}{oi oj:Oper}{v:Value}{hh:WP}(hj:ops[j]? =some oj)(hap:oi.apart ops.toArray oj=true)
  (hsi: ∀cs b,oi.op≠ .select cs b) (hsj: ∀cs b,oj.op≠ .select cs b)
  (hQ: ∀c a w,Q (.panic c) (a.put oi.dst v) w->Q (.panic c) a w) {K:Act->WP} {a:Act} {w}
  (hy:Yld P ops oi v hh a) (h:wpOp P ops.toArray Q j K (a.put oi.dst v) w):
  wpOp P ops.toArray Q j (fun a' w'=>Yld P ops oi v hh a'/\K (a'.put oi.dst v) w') a w:=by
 obtain⟨h1,h2,h3⟩:=Oper.apart_spec hap
 have hj':ops.toArray[j]? =some oj:=by simpa using hj
 have same: ∀{a a':Act},Yld P ops oi v hh a->execOp a'.eval oi=execOp a.eval oi->wantedAt ops oi a'=wantedAt ops oi a->Yld P ops oi v hh a':=by
  intro a a' hy he hw
  unfold Yld at*
  rw[he,hw]
  exact hy
 have keep: ∀(a:Act),Yld P ops oi v hh a-> ∀u,Yld P ops oi v hh (a.put oj.dst u):=fun a hy u=>
  same hy (execOp_put (ops:=ops.toArray) oi hsi a oj.dst u h3) (wanted_put oi a oj.dst u h3)
 have keepD: ∀d,Yld P ops oi v hh {a with defers:=d::a.defers}:=fun d=>same hy rfl rfl
 unfold wpOp at*
 simp only[hj']at*
 rw[wanted_put oj a oi.dst v h1]at h
 split
 ·rename_i hw
  simp only[hw,if_true]at h
  rcases h with h|⟨hasks,hlets⟩
  case inr=>exact .inr ⟨by unfold Oper.asks at*;rw[execOp_put (ops:=ops.toArray) oj hsj a oi.dst v h1]at hasks;exact hasks,hlets⟩
  refine .inl ?_
  unfold Oper.wp at*
  rw[execOp_put (ops:=ops.toArray) oj hsj a oi.dst v h1]at h
  generalize(execOp a.eval oj).run P w=r at*
  cases r with
  | ok n w' =>
   cases n<;>simp only[Oper.upon]at h|-
   case value u=>exact⟨keep a hy u,by rw[<-Act.put_comm a v u h2];exact h⟩
   case skip=>exact⟨keep a hy _,by rw[<-Act.put_comm a v undef h2];exact h⟩
   case defer d=>
    refine⟨?_,?_⟩
    ·exact same (keepD d) (execOp_put (ops:=ops.toArray) oi hsi _ oj.dst _ h3) (wanted_put oi _ oj.dst _ h3)
    ·rw[<-Act.put_comm _ v undef h2,<-Act.put_defers]
     exact h
   case enter f args=>
    refine Calls.mono h fun e w'' he=>?_
    cases e with
    |returned u=>exact⟨keep a hy u,by rw[<-Act.put_comm a v u h2];exact he⟩
    |panicked c=>exact hQ _ _ _ he
    |outgrown=>exact he
   case row row args=>exact Rows.mono h fun u w'' he=>⟨keep a hy u,by rw[<-Act.put_comm a v u h2];exact he⟩
  |halt x w'=>
   cases x<;>simp only[Oper.upon]at h|-
   case panic u=>exact hQ _ _ _ h
 ·rename_i hw
  simp only[hw]at h
  exact⟨keep a hy _,by rw[<-Act.put_comm a v undef h2];exact h⟩
theorem yld_wpOp {ops:List Oper}{Q:Exit->Act->WP}{i:Nat}{oi:Oper}{v:Value}{hh:WP}{a:Act}{w}{K:Act->WP}
  (hi:ops[i]? =some oi) (hy:Yld P ops oi v hh a) (hw:hh w) (h:K (a.put oi.dst v) w):wpOp P ops.toArray Q i K a w:=by
 have hi':ops.toArray[i]? =some oi:=by simpa using hi
 unfold wpOp
 simp only[hi']
 rcases hy with⟨hwt,hv⟩|⟨hwt,rfl⟩
 ·rw[show Region.wanted oi (yielded ops.toArray a.tmps)=true from hwt,if_pos rfl]
  refine .inl ?_
  simp only[Oper.wp,hv w hw,Oper.upon]
  exact h
 ·rw[show Region.wanted oi (yielded ops.toArray a.tmps)=false from hwt,if_neg (by simp)]
  exact h
theorem bit_or {m i j:Nat}:(m|||2^i).testBit j=true↔m.testBit j=true\/i=j:=by
 simp[Nat.testBit_or,Nat.testBit_two_pow]
theorem bit_or_no {m i j:Nat}:(m|||2^i).testBit j=false↔m.testBit j=false/\i≠j:=by
 rw[<-Bool.not_eq_true,bit_or,<-Bool.not_eq_true]
 constructor
 ·intro h;exact⟨fun h'=>h (.inl h'),fun h'=>h (.inr h')⟩
 ·rintro⟨h1,h2⟩ (h|h)
  ·exact h1 h
  ·exact h2 h
theorem Down.add {ops:List Oper}{m j:Nat}(hd:Down ops m)(hj:Rdy ops m j):Down ops (m|||2^j):=by
 intro k o hk ho d hdk
 rcases bit_or.1 hk with hk|rfl
 ·exact bit_or.2 (.inl (hd k o hk ho d hdk))
 ·obtain⟨_,o',ho',hall⟩:=hj
  rw[ho]at ho'
  obtain rfl:=Option.some.inj ho'
  exact bit_or.2 (.inl (hall d hdk))
theorem wpF_take {ops:List Oper}{Q:Exit->Act->WP}(hap:apOk ops (befs ops)=true){i:Nat}{oi:Oper}{v:Value}{hh:WP}(hi:ops[i]? =some oi)
  (hQ: ∀c a w,Q (.panic c) (a.put oi.dst v) w->Q (.panic c) a w):
  ∀(f:Nat) (fl:Fl) (m:Nat) (a:Act) (w:World),Down ops m->Rdy ops m i->Yld P ops oi v hh a->hh w->(∀x∈fl,x.2 w)->
   wpF P ops Q f ((i,hh)::fl) (m|||2^i) (a.put oi.dst v) w->wpF P ops Q (f+1) fl m a w:=by
 intro f
 induction f with
 | zero =>
  intro fl m a w hd hr hy hw hfl h
  refine⟨fun hno=>absurd hr (hno i),fun j hj=>?_⟩
  by_cases hji:j=i
  ·subst hji
   refine yld_wpOp hi hy hw ⟨fun x hx=>hfl x (List.mem_filter.1 hx).1,?_⟩
   exact h
  ·exfalso
   obtain⟨hjm,oj,hoj,hall⟩:=hj
   exact h.1 j ⟨bit_or_no.2 ⟨hjm,fun e=>hji e.symm⟩,oj,hoj,fun d hd'=>bit_or.2 (.inl (hall d hd'))⟩
 | succ f ih =>
  intro fl m a w hd hr hy hw hfl h
  refine⟨fun hno=>absurd hr (hno i),fun j hj=>?_⟩
  by_cases hji:j=i
  ·subst hji
   refine yld_wpOp hi hy hw ⟨fun x hx=>hfl x (List.mem_filter.1 hx).1,?_⟩
   exact wpF_sub _ _ _ _ _ _ (fun x hx=>List.mem_cons_of_mem _ (List.mem_filter.1 hx).1) h
  ·obtain⟨hjm,oj,hoj,hall⟩:=hj
   have hj:Rdy ops m j:=⟨hjm,oj,hoj,hall⟩
   have hj':Rdy ops (m|||2^i) j:=⟨bit_or_no.2 ⟨hjm,fun e=>hji e.symm⟩,oj,hoj,fun d hd'=>bit_or.2 (.inl (hall d hd'))⟩
   have nij:((befs ops).getD j 0).testBit i=false:=by
    rw[<-Bool.not_eq_true]
    intro hb
    have:=hd.bits j i oj hoj hall hb
    rw[hr.1]at this
    cases this
   have nji:((befs ops).getD i 0).testBit j=false:=by
    rw[<-Bool.not_eq_true]
    intro hb
    obtain⟨_,o',ho',hall'⟩:=hr
    have:=hd.bits i j o' ho' hall' hb
    rw[hjm]at this
    cases this
   have happ:=apOk_apart hap hi hoj (fun e=>hji e.symm) nij nji
   have hsw:=wpOp_swap hoj happ (apOk_select hap hi) (apOk_select hap hoj) hQ hy (h.2 j hj')
   refine wpOp_mono (fun a' w'=>?_) hsw
   rintro⟨hy',hst,hrest⟩
   have hmem:(i,hh)∈flAt (befs ops) ((i,hh)::fl) j:=by simp only[flAt,List.mem_filter];exact⟨List.mem_cons_self,by simp only[nij,Bool.not_false]⟩
   have hfl':flAt (befs ops) ((i,hh)::fl) j=(i,hh)::flAt (befs ops) fl j:=by simp only[flAt,List.filter_cons,nij,Bool.not_false,if_true]
   rw[hfl']at hst hrest
   refine⟨fun x hx=>hst x (List.mem_cons_of_mem _ hx),?_⟩
   refine ih _ (m|||2^j) a' w' (hd.add hj) ⟨bit_or_no.2 ⟨hr.1,hji⟩,?_⟩ hy' (hst (i,hh) List.mem_cons_self) (fun x hx=>hst x (List.mem_cons_of_mem _ hx)) ?_
   ·obtain⟨_,o',ho',hall'⟩:=hr
    exact⟨o',ho',fun d hd'=>bit_or.2 (.inl (hall' d hd'))⟩
   ·have e:m|||2^j|||2^i=m|||2^i|||2^j:=by rw[Nat.or_assoc,Nat.or_comm (2^j),<-Nat.or_assoc]
    rw[e]
    exact hrest
end
def loudOp (T:Tab)(op:Op):Bool:=
 match op with
 | .move _| .assign _| .pick .. | .nilCheck _| .fieldAddr .. | .field .. | .load .. | .binOp .. | .unOp .. | .makeInterface .. | .makeFunc .. | .slice .. | .indexAddr .. | .extract .. | .build .. =>false
 | .convert _ d _=>match look T.td d with|some (.sc .sl)=>true|_=>false
 | .call c=>match c.callee with| .builtin .len=>false| .builtin .cap=>false|_=>true
 |_=>true
def subBits (a m:Nat):Bool:=Nat.beq (a&&&m) a
def nexts (ms:List Nat)(m:Nat):List Oper->Nat->List (Nat×Oper)
 | [],_=>[]
 |o::os,i=>bif !(m.testBit i)&&subBits (ms.getD i 0) m then(i,o)::nexts ms m os (i+1)else nexts ms m os (i+1)
def firstQuiet (T:Tab):List (Nat×Oper)->Option (Nat×Oper)
 | []=>none
 |(i,o)::r=>bif loudOp T o.op then firstQuiet T r else some (i,o)
def stabL :Fl->(WP)->WP
 | [],p=>p
 |x::r,p=>fun w=>x.2 w/\stabL r p w
def conjL :List (WP)->WP
 | []=>fun _=>True
 | [p]=>p
 |p::q::r=>fun w=>p w/\conjL (q::r) w
def trDraw (P:Program)(T:Tab)(n:Nat)(ops:List Oper)(ms:List Nat)(K:Env->WP):Nat->Nat->Env->Fl->WP
 |0,_,e,_=>K e
 | f + 1, m, e, fl => match nexts ms m ops 0 with
  | []=>K e
  |js=>match firstQuiet T js with
   | some (j, o) => guardIte ops e o
     (fun e=>doQuiet (stepOf P T e o) fun v h=>trDraw P T n ops ms K f (m|||2^j) (e.put n o.dst v) (match h with|some h=>(j,h)::fl|none=>fl))
     (fun e=>trDraw P T n ops ms K f (m|||2^j) (e.put n o.dst undef) fl)
   | none => conjL (js.map fun jo => guardIte ops e jo.2
     (fun e => match stepOf P T e jo.2 with
      | .loud M=>M fun v=>stabL (flAt ms fl jo.1) (trDraw P T n ops ms K f (m|||2^jo.1) (e.put n jo.2.dst v) (flAt ms fl jo.1))
      |_=>fun _=>False)
     (fun e=>trDraw P T n ops ms K f (m|||2^jo.1) (e.put n jo.2.dst undef) (flAt ms fl jo.1)))
section
variable {P : Program} {T : Tab} {n : Nat}
theorem subBits_iff {a m:Nat}:subBits a m=true↔ ∀i,a.testBit i=true->m.testBit i=true:=by
 unfold subBits
 constructor
 ·intro h i hi
  have e:=Nat.eq_of_beq_eq_true h
  have:=congrArg (fun x=>x.testBit i) e
  simp only[Nat.testBit_and,hi,Bool.true_and]at this
  exact this
 ·intro h
  have e:a&&&m=a:=by
   apply Nat.eq_of_testBit_eq
   intro i
   rw[Nat.testBit_and]
   cases hi:a.testBit i with
   |false=>rfl
   |true=>rw[h i hi];rfl
  rw[e]
  exact Nat.beq_refl a
theorem mem_nexts {ms:List Nat}{m:Nat}: ∀{ops:List Oper} {i j:Nat} {o:Oper},(j,o)∈nexts ms m ops i↔i<=j/\ops[j-i]? =some o/\m.testBit j=false/\subBits (ms.getD j 0) m=true
 | [],i,j,o=>by simp[nexts]
 | o' :: os, i, j, o => by
  have ih:= @mem_nexts ms m os (i+1) j o
  have hsplit:(i<=j/\(o'::os)[j-i]? =some o/\m.testBit j=false/\subBits (ms.getD j 0) m=true)↔
    ((j=i/\o=o'/\m.testBit i=false/\subBits (ms.getD i 0) m=true)\/(i+1<=j/\os[j-(i+1)]? =some o/\m.testBit j=false/\subBits (ms.getD j 0) m=true)):=by
   constructor
   ·rintro⟨h1,h2,h3,h4⟩
    by_cases hji:j=i
    ·subst hji
     simp only[Nat.sub_self,List.getElem?_cons_zero,Option.some.injEq]at h2
     exact .inl ⟨rfl,h2.symm,h3,h4⟩
    ·refine .inr ⟨by omega,?_,h3,h4⟩
     rw[show j-i=j-(i+1)+1 by omega,List.getElem?_cons_succ]at h2
     exact h2
   ·rintro(⟨rfl,rfl,h3,h4⟩|⟨h1,h2,h3,h4⟩)
    ·exact⟨Nat.le_refl _,by simp,h3,h4⟩
    ·refine⟨by omega,?_,h3,h4⟩
     rw[show j-i=j-(i+1)+1 by omega,List.getElem?_cons_succ]
     exact h2
  rw[hsplit,<-ih]
  simp only[nexts]
  cases hc:(!(m.testBit i)&&subBits (ms.getD i 0) m)with
  | true =>
   simp only[Bool.and_eq_true,Bool.not_eq_true']at hc
   simp only[cond_true,List.mem_cons,Prod.mk.injEq]
   constructor
   ·rintro(⟨rfl,rfl⟩|h)
    ·exact .inl ⟨rfl,rfl,hc.1,hc.2⟩
    ·exact .inr h
   ·rintro(⟨rfl,rfl,_⟩|h)
    ·exact .inl ⟨rfl,rfl⟩
    ·exact .inr h
  | false =>
   simp only[cond_false]
   constructor
   ·exact .inr
   ·rintro(⟨rfl,rfl,h3,h4⟩|h)
    ·rw[h3,h4]at hc;simp at hc
    ·exact h
theorem nexts_rdy {ops:List Oper}{m:Nat}(hd:Down ops m){j:Nat}{o:Oper}:(j,o)∈nexts (befs ops) m ops 0↔ops[j]? =some o/\Rdy ops m j:=by
 rw[mem_nexts]
 simp only[Nat.zero_le,Nat.sub_zero,true_and]
 constructor
 ·rintro⟨h1,h2,h3⟩
  exact⟨h1,h2,o,h1,fun d hdm=>subBits_iff.1 h3 d (befs_dir h1 hdm)⟩
 ·rintro⟨h1,h2,o',h1',h3⟩
  rw[h1]at h1'
  obtain rfl:=Option.some.inj h1'
  exact⟨h1,h2,subBits_iff.2 fun i hi=>hd.bits j i o h1 h3 hi⟩
theorem firstQuiet_mem {x:Nat×Oper}: ∀(l:List (Nat×Oper)),firstQuiet T l=some x->x∈l:=by
 intro l
 induction l with
 |nil=>intro h;cases h
 | cons y r ih =>
  obtain⟨i,o⟩:=y
  intro h
  have h:(bif loudOp T o.op then firstQuiet T r else some (i,o))=some x:=h
  cases hl:loudOp T o.op with
  |true=>rw[hl]at h;exact List.mem_cons_of_mem _ (ih h)
  |false=>
   rw[hl]at h
   have h:some (i,o)=some x:=h
   obtain rfl:=Option.some.inj h
   exact List.mem_cons_self
theorem wpF_triv {ops:List Oper}{Q:Exit->Act->WP}: ∀(f:Nat) (fl fl':Fl) (m:Nat) (a:Act) (w:World),(∀x∈fl',x∈fl\/ ∀w,x.2 w)->wpF P ops Q f fl m a w->wpF P ops Q f fl' m a w:=by
 intro f
 induction f with
 |zero=>intro _ _ _ _ _ _ h;exact h
 | succ f ih =>
  intro fl fl' m a w hs h
  have hs': ∀j,∀x∈flAt (befs ops) fl' j,x∈flAt (befs ops) fl j\/ ∀w,x.2 w:=by
   intro j x hx
   simp only[flAt,List.mem_filter]at hx|-
   rcases hs x hx.1 with h1|h1
   ·exact .inl ⟨h1,hx.2⟩
   ·exact .inr h1
  refine⟨h.1,fun j hj=>wpOp_mono (fun a' w' hh=>⟨fun x hx=>?_,ih _ _ _ _ _ (hs' j) hh.2⟩) (h.2 j hj)⟩
  rcases hs' j x hx with h1|h1
  ·exact hh.1 x h1
  ·exact h1 _
theorem stabL_all {p:WP}{w}: ∀(fl:Fl),stabL fl p w->(∀x∈fl,x.2 w)/\p w:=by
 intro fl
 induction fl with
 |nil=>intro h;exact⟨by simp,h⟩
 |cons x r ih=>
  intro h
  obtain⟨h1,h2⟩:=(show x.2 w/\stabL r p w from h)
  obtain⟨h3,h4⟩:=ih h2
  refine⟨?_,h4⟩
  intro y hy
  rcases List.mem_cons.1 hy with e|hy
  ·rw[e];exact h1
  ·exact h3 y hy
theorem conjL_mem {w}{p:WP}: ∀(l:List (WP)),conjL l w->p∈l->p w:=by
 intro l
 induction l with
 |nil=>intro _ hp;cases hp
 | cons q r ih =>
  intro h hp
  cases r with
  |nil=>rw[List.mem_singleton]at hp;rw[hp];exact h
  |cons q' r=>
   obtain⟨h1,h2⟩:=(show q w/\conjL (q'::r) w from h)
   rcases List.mem_cons.1 hp with e|hp
   ·rw[e];exact h1
   ·exact ih h2 hp
def Plain (Q:Exit->Act->WP):Prop:= ∀c a w,¬Q (.panic c) a w
def toCome (ops:List Oper)(m:Nat):Nat:=((List.range ops.length).filter fun i=> !(m.testBit i)).length
theorem toCome_add {ops:List Oper}{m j:Nat}(hj:Rdy ops m j):toCome ops (m|||2^j)<toCome ops m:=by
 obtain⟨hm,o,ho,_⟩:=hj
 have hlt:j<ops.length:=(List.getElem?_eq_some_iff.1 ho).1
 have e:(List.range ops.length).filter (fun i=> !((m|||2^j).testBit i))=((List.range ops.length).filter fun i=> !(m.testBit i)).filter fun i=> !(decide (j=i)):=by
  rw[List.filter_filter]
  apply List.filter_congr
  intro i _
  rw[Nat.testBit_or,Nat.testBit_two_pow]
  cases m.testBit i<;>simp
 unfold toCome
 rw[e]
 have hmem:j∈(List.range ops.length).filter fun i=> !(m.testBit i):=by simp[hlt,hm]
 have:=(List.length_filter_lt_length_iff_exists (p:=fun i=> !(decide (j=i)))).2 ⟨j,hmem,by simp⟩
 exact this
theorem no_rdy {ops:List Oper}{m:Nat}(h:toCome ops m=0)(j:Nat): ¬Rdy ops m j:=by
 intro hj
 have:=toCome_add hj
 omega
theorem trDraw_sound (hC : Ctx P T) (ops : List Oper) (hap : apOk ops (befs ops) = true) {Q : Exit -> Act -> WP} (hP : Plain Q) (D : List Nat) (hD : ∀ d ∈ dsts ops, d ∈ D) (K : Env -> WP) :
  ∀(f:Nat) (m:Nat) (e:Env) (fl:Fl) (a:Act) (w:World),toCome ops m<=f->Down ops m->Agree n e a->(∀x∈fl,x.2 w)->
   (∀e' a' w',Agree n e' a'->Same D a a'->K e' w'->Q .normal a' w')->trDraw P T n ops (befs ops) K f m e fl w->wpF P ops Q f fl m a w:=by
 intro f
 induction f with
 |zero=>
  intro m e fl a w hc hd hag hfl hK h
  exact⟨no_rdy om,hK e a w hag (Same.refl _ _) h⟩
 | succ f ih =>
  intro m e fl a w hc hd hag hfl hK h
  have hput: ∀(o:Oper) (v:Value),o∈ops-> ∀e' a' w',Agree n e' a'->Same D (a.put o.dst v) a'->K e' w'->Q .normal a' w':=by
   intro o v ho e' a' w' h1 h2 h3
   have hod: ∀i,o.dst=some i->i∈D:=fun i hi=>hD i (List.mem_filterMap.2 ⟨o,ho,hi⟩)
   exact hK e' a' w' h1 ((Same.put a o.dst v hod).trans h2) h3
  unfold trDraw at h
  cases hn:nexts (befs ops) m ops 0 with
  | nil =>
   simp only[hn]at h
   have hno: ∀j,¬Rdy ops m j:=by
    intro j hj
    obtain⟨o,ho,_⟩:=hj.2
    have:=(nexts_rdy hd).2 ⟨ho,hj⟩
    rw[hn]at this
    cases this
   exact⟨fun _=>hK e a w hag (Same.refl _ _) h,fun j hj=>absurd hj (hno j)⟩
  | cons jo rest =>
   simp only[hn]at h
   cases hq:firstQuiet T (jo::rest)with
   | some x =>
    obtain⟨j,o⟩:=x
    simp only[hq]at h
    have hmem:=firstQuiet_mem _ hq
    rw[<-hn]at hmem
    obtain⟨ho,hr⟩:=(nexts_rdy hd).1 hmem
    have homem:o∈ops:=List.mem_of_getElem? ho
    have hc':toCome ops (m|||2^j)<=f:=by have:=toCome_add hr;omega
    rcases guard_cases hag h with⟨hw,e',hag',h'⟩|⟨hw,e',hag',h'⟩
    ·obtain⟨v,hh,hy,hcur,hk⟩:=quiet_cases (stepOf_ok hC hag' o) h'
     cases hh with
     | none =>
      have hrest:=ih (m|||2^j) _ fl (a.put o.dst v) w hc' (hd.add hr) (hag'.put _ _) hfl (hput o v homem) hk
      exact wpF_take hap ho (fun c a w hp=>absurd hp (hP c _ w)) f fl m a w hd hr (.inl ⟨hw,fun w' _=>hy w' trivial⟩) (hh:=fun _=>True) trivial hfl
       (wpF_triv f fl _ _ _ _ (fun x hx => by
        rcases List.mem_cons.1 hx with e1|hx
        ·exact .inr fun w=>by rw[e1];trivial
        ·exact .inl hx) hrest)
     | some p =>
      exact wpF_take hap ho (fun c a w hp=>absurd hp (hP c _ w)) f fl m a w hd hr (.inl ⟨hw,fun w' hp=>hy w' hp⟩) (hh:=p) hcur hfl
       (ih (m ||| 2 ^ j) _ ((j, p) :: fl) (a.put o.dst v) w hc' (hd.add hr) (hag'.put _ _) (by
        intro x hx
        rcases List.mem_cons.1 hx with e1|hx
        ·rw[e1];exact hcur
        ·exact hfl x hx) (hput o v homem) hk)
    ·have hrest:=ih (m|||2^j) _ fl (a.put o.dst undef) w hc' (hd.add hr) (hag'.put _ _) hfl (hput o undef homem) h'
     exact wpF_take hap ho (fun c a w hp=>absurd hp (hP c _ w)) f fl m a w hd hr (.inr ⟨hw,rfl⟩) (hh:=fun _=>True) trivial hfl
      (wpF_triv f fl _ _ _ _ (fun x hx => by
       rcases List.mem_cons.1 hx with e1|hx
       ·exact .inr fun w=>by rw[e1];trivial
       ·exact .inl hx) hrest)
   | none =>
    simp only[hq]at h
    have hne:(jo::rest)≠ []:=by simp
    refine⟨fun hno=>?_,fun j hj=>?_⟩
    ·have hmem:jo∈nexts (befs ops) m ops 0:=by rw[hn];exact List.mem_cons_self
     exact absurd ((nexts_rdy hd).1 hmem).2 (hno jo.1)
    ·obtain⟨o,ho,hall⟩:=hj.2
     have hj':Rdy ops m j:=hj
     have hmem:=(nexts_rdy hd).2 ⟨ho,hj'⟩
     rw[hn]at hmem
     have h1:=conjL_mem _ h (List.mem_map.2 ⟨(j,o),hmem,rfl⟩)
     have homem:o∈ops:=List.mem_of_getElem? ho
     have hc':toCome ops (m|||2^j)<=f:=by have:=toCome_add hj';omega
     have hi':ops.toArray[j]? =some o:=by simpa using ho
     unfold wpOp
     simp only[hi']
     rcases guard_cases hag h1 with⟨hw,e',hag',h'⟩|⟨hw,e',hag',h'⟩
     ·rw[show Region.wanted o (yielded ops.toArray a.tmps)=true from hw,if_pos rfl]
      refine .inl ?_
      have hok:=stepOf_ok hC hag' o
      cases hs:stepOf P T e' o with
      |loud M=>
       rw[hs]at hok
       simp only[hs]at h'
       refine wp_of_uponV (uponV_mono (hok _ w h') fun v w' hk=>?_)
       obtain⟨hst,hk⟩:=stabL_all _ hk
       exact⟨hst,ih (m|||2^j) _ _ (a.put o.dst v) w' hc' (hd.add hj') (hag'.put _ _) hst (hput o v homem) hk⟩
      |_=>simp only[hs]at h'
     ·rw[show Region.wanted o (yielded ops.toArray a.tmps)=false from hw,if_neg (by simp)]
      have hfl': ∀x∈flAt (befs ops) fl j,x.2 w:=fun x hx=>hfl x (List.mem_filter.1 hx).1
      exact⟨hfl',ih (m|||2^j) _ _ (a.put o.dst undef) w hc' (hd.add hj') (hag'.put _ _) hfl' (hput o undef homem) h'⟩
def Lst (ops:List Oper)(m:Nat)(l:Array Bool):Prop:=l.size=ops.length/\ ∀j,j<ops.length->l.getD j false=m.testBit j
theorem lst_ready {ops:List Oper}{m:Nat}{l:Array Bool}(hl:Lst ops m l)(hed: ∀(j:Nat) (o:Oper),ops[j]? =some o-> ∀d∈dirs o,d<ops.length){j:Nat}:j∈Region.ready .any ops.toArray l↔Rdy ops m j:=by
 rw[mem_ready]
 have gt: ∀{j:Nat} {d d':Bool},j<ops.length->l.getD j d=l.getD j d':=by
  intro j d d' hj
  have hj':j<l.size:=by rw[hl.1];exact hj
  simp[Array.getD,hj']
 constructor
 ·rintro⟨h0,o,ho,hall⟩
  have ho':ops[j]? =some o:=by simpa using ho
  have hj:j<ops.length:=(List.getElem?_eq_some_iff.1 ho').1
  refine⟨by rw[<-hl.2 j hj,gt hj (d':=true)];exact h0,o,ho',fun d hd=>?_⟩
  have hdl:=hed j o ho' d hd
  obtain⟨e,he,hb⟩:=List.mem_filterMap.1 hd
  split at hb
  ·rename_i hbd
   obtain rfl:=Option.some.inj hb
   rw[<-hl.2 _ hdl]
   exact hall e (by simpa using he) hbd
  ·cases hb
 ·rintro⟨h0,o,ho,hall⟩
  have hj:j<ops.length:=(List.getElem?_eq_some_iff.1 ho).1
  refine⟨by rw[gt hj (d':=false),hl.2 j hj];exact h0,o,by simpa using ho,fun e he hb=>?_⟩
  have hd:e.on∈dirs o:=List.mem_filterMap.2 ⟨e,by simpa using he,by simp[hb]⟩
  rw[hl.2 _ (hed j o ho _ hd)]
  exact hall _ hd
theorem lst_set {ops:List Oper}{m j:Nat}{l:Array Bool}(hl:Lst ops m l)(hj:j<ops.length):Lst ops (m|||2^j) (l.setIfInBounds j true):=by
 refine⟨by simp[hl.1],fun i hi=>?_⟩
 by_cases h:j=i
 ·subst h
  have:j<l.size:=by rw[hl.1];exact hj
  rw[bit_or.2 (.inr rfl)]
  simp[this]
 ·rw[getD_set_ne false h,hl.2 i hi]
  simp[Nat.testBit_or,Nat.testBit_two_pow,h]
theorem wpAny_of_wpF {ops:List Oper}(hed: ∀(j:Nat) (o:Oper),ops[j]? =some o-> ∀d∈dirs o,d<ops.length){Q:Exit->Act->WP}: ∀(f:Nat) (fl:Fl) (m:Nat) (l:Array Bool) (a:Act) (w:World),Lst ops m l->wpF P ops Q f fl m a w->
  wpAny P .any ops.toArray Q f l a w:=by
 intro f
 induction f with
 |zero=>
  intro fl m l a w hl h
  refine⟨?_,h.2⟩
  apply List.eq_nil_iff_forall_not_mem.2
  intro j hj
  exact h.1 j ((lst_ready hl hed).1 hj)
 | succ f ih =>
  intro fl m l a w hl h
  refine⟨fun hno=>h.1 fun j hj=>?_,fun j hj=>?_⟩
  ·have:=(lst_ready hl hed).2 hj
   rw[hno]at this
   cases this
  ·have hr:=(lst_ready hl hed).1 hj
   have hlt:j<ops.length:=by obtain⟨_,o,ho,_⟩:=hr;exact(List.getElem?_eq_some_iff.1 ho).1
   exact wpOp_mono (fun a' w' hh=>ih _ _ _ a' w' (lst_set hl hlt) hh.2) (h.2 j hr)
def edgesOk (ops:List Oper):Bool:=ops.all fun o=>(dirs o).all fun d=>Nat.blt d ops.length
theorem edgesOk_of {ops:List Oper}(h:edgesOk ops=true)(j:Nat)(o:Oper)(ho:ops[j]? =some o): ∀d∈dirs o,d<ops.length:=by
 intro d hd
 have h1:=List.all_eq_true.1 h o (List.mem_of_getElem? ho)
 have h2:=List.all_eq_true.1 h1 d hd
 exact Nat.le_of_ble_eq_true h2
theorem region_draw_sound (hC:Ctx P T)(hm:P.follows .mixedOrders=true){id:Nat}(ops:List Oper)(hap:apOk ops (befs ops)=true)(hed:edgesOk ops=true){Q:Exit->Act->WP}(hP:Plain Q)(K:Env->WP)
  {e:Env} {a:Act} {w:World} (hag:Agree n e a) (hK: ∀e' a' w',Agree n e' a'->Same (dsts ops) a a'->K e' w'->Q .normal a' w')
  (h:trDraw P T n ops (befs ops) K ops.length 0 e [] w.drew):(Code.region id ops.toArray true).wp P Q a w:=by
 refine wp_region_any hm ?_
 have hed':=edgesOk_of hed
 refine wpAny_of_wpF hed' _ [] 0 _ a _ ⟨by simp,fun j hj=>by simp[hj]⟩ ?_
 have hs:ops.toArray.size=ops.length:=by simp
 rw[hs]
 refine trDraw_sound hC ops hap hP (dsts ops) (fun d hd=>hd) K ops.length 0 e [] a _ ?_ ?_ hag (by simp) hK h
 ·unfold toCome
  exact Nat.le_trans (List.length_filter_le _ _) (by simp)
 ·intro j o hj
  simp at hj
end
end Go.Tr
