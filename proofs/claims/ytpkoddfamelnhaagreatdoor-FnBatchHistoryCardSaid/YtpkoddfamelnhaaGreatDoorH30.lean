/- Part 30 of the proof of fnBatchHistory_card. Conditions: none. -/
import Derived.Test.YtpkoddfamelnhaaGreatDoorH29
set_option linter.unusedVariables false
set_option linter.unusedSimpArgs false
namespace Go.Proofs.YtpkoddfamelnhaaGreatDoor
open Go Go.Tr
set_option maxRecDepth 100000
def mk0 (p:SV):KeyM:=⟨0,p.1,p.2⟩
def batS (g:List SV):List SpanM:=if g=[]then []else [⟨.empty,.empty,g.map mk0⟩]
theorem ifneF {a b:Int}{A B:Prop}(e:a=b)(y:A):if(a !=b)=false then A else B:=by rw[if_pos (by simpa using e)];exact y
set_option maxHeartbeats 2000000 in
theorem spec16 {out kx:Sl}{okk:Bool}{lo hi kb:ByteArray}{ks:List KeyM}{R w}{K:Sl->WP}(hkx:kx.n=ks.length)(hl:ks.length<2^32)(ho:out.n=1)
  (h:Sat w (Buf 5 out [.bool true,.bool okk,.string lo,.string hi,.slice kx.a kx.n kx.c]::Buf 3 kx (ks.flatMap pkc)::R)) (hks:okk=false->ks=[]) (k: ∀r ps w',ps.map PlM.sp=batS (gotOf okk lo hi kb ks)->Sat w' (PSp r ps::R)->K r w'):F16 out kb K w:=by
 unfold F16
 have rowR: ∀{w:World} {e:Addr},RdL w e [.bool true,.bool okk,.string lo,.string hi,.slice kx.a kx.n kx.c]->RdL w ((e.add (0*5)).add 2) [.string lo,.string hi,.slice kx.a kx.n kx.c]:=fun {w e} hr i v hv=>by
  have:=hr (2+i) v (by rw[Nat.add_comm];exact hv)
  rwa[show(e.add (0*5))=e from rfl,Addr.add_add]
 refine⟨fun _ w=>(okk=true/\bcmp lo kb<=0/\bcmp kb hi<0)/\Sat w (Buf 5 out [.bool true,.bool okk,.string lo,.string hi,.slice kx.a kx.n kx.c]::Buf 3 kx (ks.flatMap pkc)::R),?_,?_⟩
 rotate_left
 ·refine ifneF om ?_
  obtain⟨e,he,hr⟩:=bufRd h (by simp)
  refine⟨⟨by omega,by omega⟩,e,he,LdC (v:=.bool okk) (hr 1 _ rfl) ?_⟩
  refine ifnf (fun hot=>?_) (fun hof=>k nl [] w ?_ (pspNil h.tail.tail))
  ·refine⟨⟨by omega,by omega⟩,e,he,LdR (rowR hr) ?_⟩
   refine call14 (s1:=(lo,hi,kx)) (spec14 (s:=⟨lo,hi,ks⟩) (fun w h=>pkeysRd hkx h .k1) hl h fun b w hb h=>?_)
   refine ifn (fun hbf=>k nl [] w ?_ (pspNil h.tail.tail)) (fun hbt=>⟨?_,h⟩)
   ·rw[hbf]at hb
    unfold gotOf
    rw[if_neg (fun h9=>of_decide_eq_false hb.symm h9.2)];rfl
   ·rw[hbt]at hb
    exact⟨hot,of_decide_eq_true hb.symm⟩
  ·unfold gotOf
   rw[if_neg (fun h9=>by rw[h9.1]at hof;exact nomatch hof)];rfl
 clear h
 rintro _ w ⟨hc,h⟩
 have hg:gotOf okk lo hi kb ks=ks.map svOf:=by unfold gotOf;rw[if_pos hc]
 rw[hg]at k
 obtain⟨e,he,hr⟩:=bufRd h (by simp)
 refine⟨⟨by omega,by omega⟩,e,he,LdR (rowR hr) (NewS_run h fun l7 w h=>?_)⟩
 refine call39 (l1:=⟨some l7,1,1⟩) (spec39 (ys:=fun _=>kx) (ss:=[⟨lo,hi,ks⟩]) (fun w h=>⟨rfl,fun j hj=>?_⟩) (show 1<2^32 by decide) (fun s hs=>by rw[List.mem_singleton.1 hs];exact hl) h fun r8 ps w hps h=>?_)
 ·have:j=0:=by rw[List.length_cons,List.length_nil]at hj;omega
  subst this
  exact⟨l7,rfl,h.rdL .here,pkeysRd hkx h .k2⟩
 ·obtain⟨x,rfl⟩: ∃x,ps=[x]:=by
   have:=congrArg List.length hps
   rw[List.length_map,List.length_map]at this
   match ps,this with
   | [x],_=>exact⟨x,rfl⟩
  simp only[List.map_cons,List.map_nil,List.cons.injEq,and_true]at hps
  obtain⟨h1,hrd⟩:=PSp.rd h
  obtain⟨e8,he8,hr8,hk8⟩:=hrd 0 (by simp)
  have exk:x.keys=ks.map bareK:=congrArg SpanM.keys hps
  have exn:x.kx.n=ks.length:=by
   have:=hk8.1
   rw[List.getElem_map]at this
   have e2:([x][0]).sp.keys=x.keys:=rfl
   rw[e2,exk,List.length_map]at this
   exact this
  dsimp only at hr8
  have h8:([x]:List PlM).getD 0 pld=x:=rfl
  rw[h8]at hr8
  have hrn:r8.n=1:=h1
  refine⟨⟨by omega,by omega⟩,e8,he8,LdR hr8 (NewP_run h fun n w h=>StL_of (St1 h rfl fun w h=>St1 h rfl fun w h=>St1 h rfl fun w h=>?_))⟩
  simp only[StC]
  refine Ld1 h (ife (fun h0=>?_) (fun h0=>?_))
  ·dsimp only at h0
   have hk0:ks=[]:=List.length_eq_zero_iff.1 om
   exact k nl [] w (by rw[hk0];rfl) (pspNil (Sat.drop 5 h))
  ·have hk0:ks≠ []:=fun e=>h0 (by dsimp only;rw[exn,e];rfl)
   refine Ld1 h (NewS_run h fun p w h=>?_)
   obtain⟨_,a2,h3⟩:=pspOpen (h.mv 2)
   have h4:=(h3.mv 1).fam_out (i:=0) (by simp)
   have e4:plF [x] 0=Buf 3 x.kx (x.keys.flatMap pkc):=rfl
   rw[e4]at h4
   have h5:Sat w (Arr p [.string .empty,.string .empty,.slice x.kx.a x.kx.n x.kx.c]::Buf 3 x.kx (x.keys.flatMap pkc)::R):=((((((((h4.mv 1).tail.mv 1).tail.mv 2).tail.mv 2).tail.mv 2).tail.mv 2).tail.mv 0).mv 1)
   have h6:Sat w (Buf 3 ⟨some p,1,1⟩ (([]:List PlM).flatMap plc++plc ⟨.empty,.empty,x.kx,x.keys⟩)::Buf 3 x.kx (x.keys.flatMap pkc)::Fam ([]:List PlM).length (plF [])::R):=by
    have h7:=h5.cons (d:=Buf 3 ⟨some p,1,1⟩ (plc ⟨.empty,.empty,x.kx,x.keys⟩)) fun g hg=>⟨rfl,[],rfl,by rw[List.append_nil];exact hg⟩
    exact SatU.under (fun _=>SatU.under (fun _ h=>SatU.nil (fun _=>rfl) h) _) _ h7
   have h7:=pspSnoc (ps:=[]) (x:=⟨.empty,.empty,x.kx,x.keys⟩) (r:=⟨some p,1,1⟩) rfl (fun y hy=>by cases hy) (by show x.kx.n=x.keys.length;rw[exk,List.length_map,exn]) h6
   refine k _ _ w ?_ h7
   unfold batS
   rw[if_neg (by simpa using hk0)]
   show [SpanM.mk .empty .empty x.keys]=_
   rw[exk,List.map_map];rfl
def bmp (d:Int)(m:KeyM):KeyM:={m with tr:=m.tr+d}
def bmpP (d:Int)(x:PlM):PlM:={x with keys:=x.keys.map (bmp d)}
def mt {α:Type}(f:α->α)(l:List α)(j:Nat):List α:=(l.take j).map f++l.drop j
theorem mt_zero {α:Type}(f:α->α)(l:List α):mt f l 0=l:=rfl
theorem mt_all {α:Type}(f:α->α)(l:List α):mt f l l.length=l.map f:=by unfold mt;rw[List.take_length,List.drop_length,List.append_nil]
theorem mt_len {α:Type}(f:α->α)(l:List α)(j:Nat):(mt f l j).length=l.length:=by
 unfold mt
 rw[List.length_append,List.length_map,List.length_take,List.length_drop];omega
theorem mt_get {α:Type}(f:α->α)(l:List α)(j:Nat):(mt f l j)[j]? =l[j]? :=by
 unfold mt
 by_cases h:j<l.length
 ·rw[List.getElem?_append_right (by rw[List.length_map,List.length_take];omega),List.length_map,List.length_take,Nat.min_eq_left om,Nat.sub_self,List.getElem?_drop,Nat.add_zero]
 ·rw[List.getElem?_eq_none (by rw[List.length_append,List.length_map,List.length_take,List.length_drop];omega),List.getElem?_eq_none om]
theorem mt_set {α:Type}(f:α->α)(l:List α)(j:Nat)(x:α)(h:l[j]? =some x):(mt f l j).set j (f x)=mt f l (j+1):=by
 have hj:j<l.length:=(List.getElem?_eq_some_iff.1 h).1
 unfold mt
 rw[List.set_append_right _ _ (by rw[List.length_map,List.length_take];omega),List.length_map,List.length_take,Nat.min_eq_left om,Nat.sub_self,List.drop_eq_getElem_cons hj,List.set_cons_zero,List.take_add_one,h]
 simp
theorem set_self {α:Type}: ∀{l:List α} {i:Nat} {x:α},l[i]? =some x->l.set i x=l
 | [],_,_,h=>by simp at h
 |y::l,0,x,h=>by simp at h;rw[h];rfl
 |y::l,i+1,x,h=>by rw[List.set_cons_succ,set_self (by simpa using h)]
theorem flat_inv {α:Type}{f:α->List Value}{k:Nat}(hf: ∀x,(f x).length=k): ∀(l:List α) (m:Nat) (v:Value),(l.flatMap f)[m]? =some v-> ∃(j i:Nat) (x:α),m=j*k+i/\l[j]? =some x/\(f x)[i]? =some v
 | [],m,v,h=>by simp at h
 | x :: l, m, v, h => by
  rw[List.flatMap_cons]at h
  by_cases hm:m<(f x).length
  ·rw[List.getElem?_append_left hm]at h
   exact⟨0,m,x,by omega,rfl,h⟩
  ·rw[List.getElem?_append_right om]at h
   obtain⟨j,i,y,h1,h2,h3⟩:=flat_inv hf l _ v h
   rw[hf]at h1 hm
   exact⟨j+1,i,y,by rw[Nat.add_mul];omega,h2,h3⟩
theorem OpsIn.rdS {R}{x:Sl}{l:List OpM}(h:OpsIn R x l){w}(hs:Sat w R):RdS w x.a (x.n*6) (l.flatMap oc):=by
 obtain⟨h1,h2⟩:=h
 unfold RdS
 cases ha:x.a with
 | none =>
  cases l with
  |nil=>rfl
  |cons o l=>
   obtain⟨e,he,_⟩:=h2 w hs 0 o rfl
   rw[ha]at he;cases he
 |some a=>
  refine⟨by rw[flat_len_k (f:=oc) (k:=6) (fun _=>rfl),h1],fun m v hv=>?_⟩
  obtain⟨j,i,o,rfl,ho,hi⟩:=flat_inv (f:=oc) (k:=6) (fun _=>rfl) l m v hv
  obtain⟨e,he,hr⟩:=h2 w hs j o ho
  rw[ha]at he
  injection he with he
  subst he
  have:=hr i v hi
  rwa[Addr.add_add]at this
theorem AnsL.nok {ls:List (List SpanM)}{sn:Int}{kb lo hi:ByteArray}{okk:Bool}{ks:List KeyM}(h:AnsL ls sn kb okk lo hi ks):okk=false->ks=[]:=by
 intro e
 rcases h with⟨_,h,_⟩|⟨h,_⟩
 ·exact h
 ·rw[h]at e;exact nomatch e
def bmpS (d:Int)(s:SpanM):SpanM:={s with keys:=s.keys.map (bmp d)}
theorem bmpP_sp (d:Int)(ps:List PlM):(ps.map (bmpP d)).map PlM.sp=(ps.map PlM.sp).map (bmpS d):=by rw[List.map_map,List.map_map];rfl
theorem keysOf_bmp (d:Int)(y:ByteArray): ∀ss:List SpanM,keysOf (ss.map (bmpS d)) y=(keysOf ss y).map (bmp d)
 | []=>rfl
 |s::ss=>by
  have ih:=keysOf_bmp d y ss
  unfold keysOf covs at ih|-
  rw[List.map_cons,List.find?_cons,List.find?_cons]
  have e1:(decide (bcmp (bmpS d s).lo y<=0)&&decide (bcmp y (bmpS d s).hi<0))=(decide (bcmp s.lo y<=0)&&decide (bcmp y s.hi<0)):=rfl
  rw[e1]
  cases(decide (bcmp s.lo y<=0)&&decide (bcmp y s.hi<0))with
  |true=>rfl
  |false=>exact ih
theorem SpansOK.bmp {ss:List SpanM}(h:SpansOK ss)(d:Int):SpansOK (ss.map (bmpS d)):=by
 refine⟨fun j s e=>?_,fun i j x y hij ex ey=>?_,fun s hs=>?_⟩
 ·rw[List.getElem?_map,Option.map_eq_some_iff]at e
  obtain⟨t,et,rfl⟩:=e
  exact h.ne j t et
 ·rw[List.getElem?_map,Option.map_eq_some_iff]at ex ey
  obtain⟨t,et,rfl⟩:=ex
  obtain⟨u,eu,rfl⟩:=ey
  exact h.so i j t u hij et eu
 ·obtain⟨t,ht,rfl⟩:=List.mem_map.1 hs
  exact h.sz t ht
structure LevK (ss:List SpanM)(E:ByteArray->List KeyM):Prop where
 ok:SpansOK ss
 n:ss.length<2^32
 ks: ∀y,(keysOf ss y).Perm (E y)
 pr: ∀y,∀m∈E y,(0<=m.tr/\m.tr<9223372036854775808/\(m.tr%256=19\/m.tr%256=20\/m.tr%256=21))/\m.suf.size<2^40/\m.val.size<2^40
 el: ∀y,(E y).length<=1048576
theorem LevK.key {ss:List SpanM}{E:ByteArray->List KeyM}(h:LevK ss E): ∀s∈ss,s.keys.Perm (E s.lo):=by
 intro s hs
 obtain⟨j,hj,e⟩:=List.getElem_of_mem hs
 have hj':ss[j]? =some s:=by rw[List.getElem?_eq_getElem hj,e]
 have h2:covs ss s.lo=some s:=covs_at h.ok hj' (by rw[bcmp_refl];exact Int.le_refl _) (h.ok.ne j s hj')
 have h3:=h.ks s.lo
 unfold keysOf at h3
 rw[h2]at h3
 exact h3
abbrev LevE :=List SpanM×(ByteArray->List KeyM)
theorem keysL_perm {L:List LevE}(h: ∀p∈L,LevK p.1 p.2)(y:ByteArray):(keysL (L.map (·.1)) y).Perm (L.flatMap fun p=>p.2 y):=by
 induction L with
 |nil=>exact List.Perm.refl _
 |cons p L ih=>
  have e1:keysL ((p::L).map (·.1)) y=keysOf p.1 y++keysL (L.map (·.1)) y:=rfl
  rw[e1,List.flatMap_cons]
  exact((h p (by simp)).ks y).append (ih fun q hq=>h q (by simp[hq]))
theorem lg_of {L:List LevE}(hk:L.length<=10)(h: ∀p∈L,LevK p.1 p.2)(nd: ∀y,((L.flatMap fun p=>p.2 y).map (·.tr)).Nodup):LG (L.map (·.1)):=by
 have cs: ∀ss∈L.map (·.1),∃E,LevK ss E:=fun ss hs=>by
  obtain⟨p,hp,rfl⟩:=List.mem_map.1 hs
  exact⟨p.2,h p hp⟩
 refine⟨by rw[List.length_map];exact hk,fun s hs=>?_,fun s hs=>?_,fun s hs x hx=>?_,fun s hs x hx m hm=>?_,fun s hs x hx m hm=>?_,fun y=>?_⟩
 ·obtain⟨E,hE⟩:=cs s hs;exact hE.ok
 ·obtain⟨E,hE⟩:=cs s hs;exact hE.n
 ·obtain⟨E,hE⟩:=cs s hs
  rw[(hE.key x hx).length_eq];exact hE.el _
 ·obtain⟨E,hE⟩:=cs s hs
  exact(hE.pr _ m ((hE.key x hx).mem_iff.1 hm)).1
 ·obtain⟨E,hE⟩:=cs s hs
  exact(hE.pr _ m ((hE.key x hx).mem_iff.1 hm)).2
 ·exact((keysL_perm h y).map _).nodup_iff.2 (nd y)
def batE (l:List OpM)(d:Int)(y:ByteArray):List KeyM:=((entIn y l).map eKey).map (bmp d)
theorem batE_pr {l:List OpM}(hl: ∀o∈l,OpOK o)(hn:l.length<=512){d:Int}(hd:0<=d/\d<2^60/\d%256=0)(y:ByteArray): ∀m∈batE l d y,(d<=m.tr/\m.tr<d+131072/\(m.tr%256=19\/m.tr%256=20\/m.tr%256=21))/\m.suf.size<2^40/\m.val.size<2^40:=by
 intro m hm
 obtain⟨q,hq,rfl⟩:=List.mem_map.1 hm
 have h:=eKey_props hl hn q hq
 refine⟨?_,h.2⟩
 show d<=q.tr+d/\q.tr+d<d+131072/\((q.tr+d)%256=19\/(q.tr+d)%256=20\/(q.tr+d)%256=21)
 have:=h.1
 omega
theorem RngOK.lev {l:List OpM}{ss:List SpanM}(hl: ∀o∈l,OpOK o)(hn:l.length<=512){d:Int}(hd:0<=d/\d<2^60/\d%256=0)(h:RngOK l ss):LevK (ss.map (bmpS d)) (batE l d):=by
 refine⟨h.ok.bmp d,by rw[List.length_map];exact sq512 hn h.n,fun y=>?_,fun y m hm=>?_,fun y=>?_⟩
 ·rw[keysOf_bmp]
  exact(h.at y).map _
 ·have:=batE_pr hl hn hd y m hm
  refine⟨?_,this.2⟩
  omega
 ·unfold batE
  rw[List.length_map,List.length_map]
  have:=entIn_len y l
  omega
theorem batE_tr {l:List OpM}(hl: ∀o∈l,OpOK o)(d:Int)(y:ByteArray):(batE l d y).Pairwise fun a b=>a.tr<b.tr:=
 List.pairwise_map.2 ((entIn_tr hl).imp fun {a b} h=>by show a.tr+d<b.tr+d;omega)
theorem bmp_step (d:Int)(hd:d%256=0)(m:KeyM)(s:List SV):rsStep (bmp d m) s=rsStep m s:=by
 refine rsStep_congr (k:=bmp d m) (k':=m) ?_ (fun _=>rfl) (fun _=>rfl) s
 show(m.tr+d)%256=m.tr%256
 omega
theorem batE_rs {kb:ByteArray}{l:List OpM}(hl: ∀o∈l,OpOK o){d:Int}(hd:d%256=0)(s0:List SV):rsAll (batE l d kb).reverse s0=rsAll (bsKeys kb l) s0:=by
 rw[batch_rs hl]
 unfold batE
 rw[<-List.map_reverse]
 have:=rsAll_congr (f:=bmp d) (g:=id) (s0:=s0) (l:=((entIn kb l).map eKey).reverse) fun m _ s=>bmp_step d hd m s
 rwa[List.map_id]at this
def unS (ss:List SpanM):List SpanM:=ss.flatMap fun s=>s.keys.map fun m=>⟨s.lo,s.hi,[m]⟩
theorem covK_un (lo hi y:ByteArray): ∀ks:List KeyM,covK (ks.map fun m=>(⟨lo,hi,[m]⟩:SpanM)) y=if bcmp lo y<=0/\bcmp y hi<0 then ks else []
 | []=>by split<;>rfl
 |m::ks=>by
  have ih:=covK_un lo hi y ks
  have e:covK ((m::ks).map fun m=>(⟨lo,hi,[m]⟩:SpanM)) y=covK [⟨lo,hi,[m]⟩] y++covK (ks.map fun m=>(⟨lo,hi,[m]⟩:SpanM)) y:=covK_app [_] _ y
  rw[e,ih,covK_one]
  by_cases c:bcmp lo y<=0/\bcmp y hi<0
  ·rw[if_pos c,if_pos c,if_pos c];rfl
  ·rw[if_neg c,if_neg c,if_neg c];rfl
theorem SpansOK.tl {s:SpanM}{ss:List SpanM}(h:SpansOK (s::ss)):SpansOK ss:=⟨fun j t e=>h.ne (j+1) t e,fun i j x y hij ex ey=>h.so (i+1) (j+1) x y om ex ey,fun t ht=>h.sz t (List.mem_cons_of_mem _ ht)⟩
theorem SpansOK.hd {s t:SpanM}{ss:List SpanM}(h:SpansOK (s::ss))(ht:t∈ss):bcmp s.hi t.lo<=0:=by
 obtain⟨j,hj,e⟩:=List.getElem_of_mem ht
 exact h.so 0 (j+1) s t om rfl (by rw[List.getElem?_cons_succ,List.getElem?_eq_getElem hj,e])
theorem keysOf_cons (s:SpanM)(ss:List SpanM)(y:ByteArray):keysOf (s::ss) y=if bcmp s.lo y<=0/\bcmp y s.hi<0 then s.keys else keysOf ss y:=by
 unfold keysOf covs
 rw[List.find?_cons]
 by_cases c:bcmp s.lo y<=0/\bcmp y s.hi<0
 ·rw[if_pos c,decide_eq_true c.1,decide_eq_true c.2];rfl
 ·rw[if_neg c,<-Bool.decide_and,decide_eq_false c]
theorem unS_covK : ∀{ss:List SpanM},SpansOK ss-> ∀y,covK (unS ss) y=keysOf ss y
 | [],_,_=>rfl
 | s :: ss, h, y => by
  have ih:=unS_covK h.tl y
  have e:covK (unS (s::ss)) y=covK (s.keys.map fun m=>(⟨s.lo,s.hi,[m]⟩:SpanM)) y++covK (unS ss) y:=covK_app _ _ y
  rw[e,ih,covK_un,keysOf_cons]
  by_cases c:bcmp s.lo y<=0/\bcmp y s.hi<0
  ·have:keysOf ss y=[]:=by
    unfold keysOf
    rw[covs_below fun f hf=>bcmp_lt_le c.2 (h.hd hf)]
   rw[if_pos c,if_pos c,this,List.append_nil]
  ·rw[if_neg c,if_neg c];rfl
theorem unS_mem {ss:List SpanM}{t:SpanM}(h:t∈unS ss): ∃s∈ss,∃m∈s.keys,t=⟨s.lo,s.hi,[m]⟩:=by
 obtain⟨s,hs,ht⟩:=List.mem_flatMap.1 h
 obtain⟨m,hm,rfl⟩:=List.mem_map.1 ht
 exact⟨s,hs,m,hm,rfl⟩
theorem unS_pw : ∀{ss:List SpanM},SpansOK ss->(unS ss).Pairwise fun a b=>bcmp a.lo b.lo<=0
 | [],_=>List.Pairwise.nil
 |s::ss,h=>by
  refine List.pairwise_append.2 ⟨List.pairwise_map.2 (List.pairwise_of_forall fun _ _=>le_refl_b _),unS_pw h.tl,fun a ha b hb=>?_⟩
  obtain⟨m,_,rfl⟩:=List.mem_map.1 ha
  obtain⟨t,ht,q,_,rfl⟩:=unS_mem hb
  exact bcmp_trans (lt_le_b (h.ne 0 s rfl)) (h.hd (t:=t) ht)
theorem unS_keys : ∀ss:List SpanM,((unS ss).flatMap (·.keys)).length=(unS ss).length:=by
 intro ss
 have: ∀l:List SpanM,(∀t∈l,t.keys.length=1)->(l.flatMap (·.keys)).length=l.length:=by
  intro l
  induction l with
  |nil=>intro _;rfl
  |cons t l ih=>
   intro h
   rw[List.flatMap_cons,List.length_append,ih fun x hx=>h x (List.mem_cons_of_mem _ hx),h t (by simp),List.length_cons]
   omega
 refine this _ fun t ht=>?_
 obtain⟨s,_,m,_,rfl⟩:=unS_mem ht
 rfl
theorem unS_len {M:Nat}: ∀{ss:List SpanM},(∀s∈ss,s.keys.length<=M)->(unS ss).length<=ss.length*M
 | [],_=>Nat.zero_le _
 | s :: ss, h => by
  have ih:=unS_len fun x hx=>h x (List.mem_cons_of_mem _ hx)
  have e:(unS (s::ss)).length=s.keys.length+(unS ss).length:=by
   show(s.keys.map _++unS ss).length=_
   rw[List.length_append,List.length_map]
  have:=h s (by simp)
  rw[e,List.length_cons,Nat.add_mul]
  omega
theorem ents_sq : ∀(l:List OpM) (i off:Nat),(ents i off l).Pairwise fun a b=>a.i<b.i
 | [],_,_=>List.Pairwise.nil
 |o::l,i,off=>by
  refine List.pairwise_cons.2 ⟨fun e he=>?_,ents_sq l _ _⟩
  have h1:=(ents_i l (i+1) _ e he).1
  show i<e.i
  omega
theorem batE_sq {l:List OpM}(hl: ∀o∈l,OpOK o){d:Int}(hd:d%256=0)(y:ByteArray):((batE l d y).map fun m=>m.tr/256).Nodup:=by
 unfold batE
 rw[List.map_map,List.map_map]
 refine List.pairwise_map.2 (List.Pairwise.imp_of_mem ?_ ((ents_sq l 0 12).sublist List.filter_sublist))
 intro a b ha hb hab
 have ka:=(entIn_op hl a ha).kind
 have kb:=(entIn_op hl b hb).kind
 unfold OpKind at ka kb
 show((((a.i*256+a.op.kind:Nat)):Int)+d)/256≠((((b.i*256+b.op.kind:Nat)):Int)+d)/256
 omega
structure NKey (m:KeyM):Prop where
 ok:KeyOK m
 suf:rkSuf (knd m) m.suf=m.suf
 val:rkV (knd m) m.val=m.val
theorem batE_nk {l:List OpM}(hl: ∀o∈l,OpOK o)(hn:l.length<=512){d:Int}(hd:0<=d/\d<2^60/\d%256=0)(y:ByteArray): ∀m∈batE l d y,NKey m:=by
 intro m hm
 have hp:=(batE_pr hl hn hd y m hm).1
 obtain⟨q,hq,rfl⟩:=List.mem_map.1 hm
 obtain⟨e,he,rfl⟩:=List.mem_map.1 hq
 have ho:=entIn_op hl e he
 have hs:=ho.suf
 have hv:=ho.val
 obtain⟨h1,h2⟩:=List.mem_filter.1 he
 have hk:=(of_decide_eq_true h2).1
 have ek:knd (bmp d (eKey e))=e.op.kind:=by
  show(((((e.i*256+e.op.kind:Nat)):Int)+d)%256).toNat=_
  omega
 refine⟨⟨by omega,by omega,hp.2.2,?_,?_⟩,?_,?_⟩
 ·show(rkSuf e.op.kind e.op.suf).size<_
  unfold rkSuf
  split
  ·decide
  ·omega
 ·show(rkV e.op.kind e.op.val).size<_
  unfold rkV
  split
  ·omega
  ·decide
 ·rw[ek]
  show rkSuf e.op.kind (rkSuf e.op.kind e.op.suf)=rkSuf e.op.kind e.op.suf
  unfold rkSuf
  split<;>rfl
 ·rw[ek]
  show rkV e.op.kind (rkV e.op.kind e.op.val)=rkV e.op.kind e.op.val
  unfold rkV
  split<;>rfl
theorem seqsD_of {ks:List KeyM}(h:(ks.map fun m=>m.tr/256).Nodup):SeqsD ks:=by
 intro j a b ea eb
 have hj:=(List.getElem?_eq_some_iff.1 eb).1
 have:=List.pairwise_iff_getElem.1 (List.pairwise_map.1 h) j (j+1) om hj om
 rw[List.getElem?_eq_getElem om]at ea eb
 injection ea with ea
 injection eb with eb
 rwa[ea,eb]at this
structure WrOK (ss:List SpanM):Prop where
 ok:SpansOK ss
 nk: ∀s∈ss,∀m∈s.keys,NKey m
 sq: ∀s∈ss,SeqsD s.keys
 kl: ∀s∈ss,s.keys.length<=30
 n:ss.length<=961
theorem RngOK.wr {l:List OpM}{ss:List SpanM}(hl: ∀o∈l,OpOK o)(hn:l.length<=30){d:Int}(hd:0<=d/\d<2^60/\d%256=0)(h:RngOK l ss):WrOK (ss.map (bmpS d)):=by
 have hlv:=h.lev hl om hd
 refine⟨hlv.ok,fun s hs m hm=>batE_nk hl om hd _ m ((hlv.key s hs).mem_iff.1 hm),fun s hs=>seqsD_of ?_,fun s hs=>?_,?_⟩
 ·exact((hlv.key s hs).map _).nodup_iff.2 (batE_sq hl hd.2.2 _)
 ·rw[(hlv.key s hs).length_eq]
  unfold batE
  rw[List.length_map,List.length_map]
  exact Nat.le_trans (entIn_len _ l) hn
 ·rw[List.length_map]
  exact Nat.le_trans h.n (Nat.mul_le_mul (show l.length+1<=31 by omega) (show l.length+1<=31 by omega))
theorem RngOK.back {l:List OpM}{ss out:List SpanM}(hl: ∀o∈l,OpOK o)(hn:l.length<=30){d:Int}(hd:0<=d/\d<2^60/\d%256=0)(h:RngOK l ss)(h1:SpansOK out)(h2: ∀y,(keysOf out y).Perm (covK (unS (ss.map (bmpS d))) y))(h3:out.length<2^32):LevK out (batE l d):=by
 have hlv:=h.lev hl om hd
 refine⟨h1,h3,fun y=>(h2 y).trans ?_,hlv.pr,hlv.el⟩
 rw[unS_covK hlv.ok]
 exact hlv.ks y
theorem WrOK.unl {ss:List SpanM}(h:WrOK ss):(unS ss).length<=28830:=Nat.le_trans (unS_len h.kl) (Nat.mul_le_mul_right 30 h.n)
theorem WrOK.unz {ss:List SpanM}(h:WrOK ss): ∀s∈unS ss,(s.lo.size<2^28/\s.hi.size<2^28)/\s.keys.length<2^32:=fun s hs=>by
 obtain⟨t,ht,m,_,rfl⟩:=unS_mem hs
 exact⟨h.ok.sz t ht,show 1<2^32 by omega⟩
theorem RngOK.und {l:List OpM}{ss:List SpanM}(hl: ∀o∈l,OpOK o)(hn:l.length<=30){d:Int}(hd:0<=d/\d<2^60/\d%256=0)(h:RngOK l ss)(y:ByteArray):((covK (unS (ss.map (bmpS d))) y).map (·.tr)).Nodup:=by
 have hlv:=h.lev hl om hd
 rw[unS_covK hlv.ok]
 exact((hlv.ks y).map _).nodup_iff.2 (List.pairwise_map.2 ((batE_tr hl d y).imp fun h=>Int.ne_of_lt h))
theorem spec41k {s:SpanM}{q:KeyM}{R w}{K:(ByteArray×ByteArray×Sl)×Bool->WP}(hq:NKey q)(hz:s.hi.size<2^28)(h:Sat w R)(k: ∀kx w',kx.n=1->Sat w' (Buf 3 kx ([q].flatMap pkc)::R)->K ((s.lo,s.hi,kx),true) w'):F41 (entK s q) K w:=by
 have h0:=hq.ok.t0
 have h1:=hq.ok.t1
 have h2:=hq.ok.kd
 have e0:((q.tr.toNat:Nat):Int)=q.tr:=Int.toNat_of_nonneg h0
 have e:entK s q=(s.lo,((q.tr.toNat:Nat):Int),rkB (knd q) s.hi q.suf q.val):=by unfold entK;rw[e0]
 rw[e]
 refine spec41 (by unfold knd;omega) (by unfold knd;omega) om hz hq.ok.sz hq.ok.vz h fun kx w hn h=>k kx w hn ?_
 rw[e0,hq.suf,hq.val]at h
 exact h
theorem bump18 {rg:Sl}{Q:List PlM}{i:Nat}{x:PlM}{d more:Int}{n9:Addr}{L w}{KK:WP}(hD:IntKind.u64.wrap (more*2^(min 8 IntKind.u64.bits))=d)(hd:0<=d/\d<2^60)(hi:Q[i]? =some x)(hk:x.keys.length<2^32)(ht: ∀m∈x.keys,0<=m.tr/\m.tr<2^60)
  (h:Sat w (PSp rg Q::Arr n9 [.string x.lo,.string x.hi,.slice x.kx.a x.kx.n x.kx.c]::L)) (k: ∀w',Sat w' (PSp rg (Q.set i (bmpP d x))::Arr n9 [.string x.lo,.string x.hi,.slice x.kx.a x.kx.n x.kx.c]::L)->KK w'):
  Tr.Loop (fun(a2:Int->WP) (s11:Int) w=>(if(decide (s11<(x.kx.n:Int)))=true then Ld tS (n9.add 2) (fun a3 w=>(0<=s11/\s11<(a3.n:Int))/\(∃a4,a3.a=some a4/\Ld tu64 ((a4.add (s11.toNat*3)).add 0) (fun(a5:Int) w=>0<=(8:Int)/\(0<=s11/\s11<(a3.n:Int))/\(∃a6,a3.a=some a6/\St ((a6.add (s11.toNat*3)).add 0) (.int .u64 (IntKind.u64.wrap (a5+(IntKind.u64.wrap (more*2^(min 8 IntKind.u64.bits)))))) (fun w=>a2 (IntKind.i64.wrap (s11+1)) w) w)) w)) w else KK w)) (0:Int) w:=by
 have hil:i<Q.length:=(List.getElem?_eq_some_iff.1 hi).1
 have hkl:x.kx.n=x.keys.length:=(pspOpen h).2.1 x (List.mem_of_getElem? hi)
 have hset: ∀y,(Q.set i y)[i]? =some y:=fun y=>by rw[List.getElem?_set_self hil]
 refine⟨fun m (z:Int) w=> ∃j:Nat,z=(j:Int)/\j<=x.keys.length/\m=x.keys.length-j/\Sat w (PSp rg (Q.set i {x with keys:=mt (bmp d) x.keys j})::Arr n9 [.string x.lo,.string x.hi,.slice x.kx.a x.kx.n x.kx.c]::L),⟨_,0,rfl,Nat.zero_le _,rfl,?_⟩,?_⟩
 ·rw[mt_zero]
  have:Q.set i {x with keys:=x.keys}=Q:=set_self hi
  rw[this];exact h
 clear h
 rintro m z w ⟨j,rfl,hj,hm,h⟩
 refine ifd (fun hlt=>?_) (fun hge=>?_)
 ·have hjl:j<x.keys.length:=by omega
  have hmj:x.keys[j]? =some x.keys[j]:=List.getElem?_eq_getElem hjl
  have htj:=ht _ (List.getElem_mem hjl)
  generalize x.keys[j]=q at hmj htj
  obtain⟨a,ha,hra,hst⟩:=pspKey (w1:=w) h (hset _) (show(mt (bmp d) x.keys j)[j]? =some q by rw[mt_get];exact hmj)
  rw[w1 om,Int.toNat_natCast,hD]
  refine Ld1 h ⟨⟨by omega,by dsimp only;omega⟩,a,ha,LdC (v:=.int .u64 q.tr) (hra 0 _ rfl) ⟨by omega,⟨by omega,by dsimp only;omega⟩,a,ha,?_⟩⟩
  rw[wu64 om om]
  refine hst _ _ fun w h=>⟨_,?_,j+1,rfl,hjl,rfl,?_⟩
  ·omega
  ·rw[List.set_set]at h
   have e9:(mt (bmp d) x.keys j).set j {q with tr:=q.tr+d}=mt (bmp d) x.keys (j+1):=mt_set (bmp d) x.keys j q hmj
   rw[e9]at h
   exact h
 ·have hjl:j=x.keys.length:=by omega
  subst hjl
  rw[mt_all]at h
  exact k w h
set_option maxHeartbeats 4000000 in
theorem spec18 {ops:Sl}{l:List OpM}{d more:Int}{R w}{K:Sl×Bool->WP}(hl: ∀o∈l,OpOK o)(hn:l.length<=30)(hne:l≠ [])(hD:IntKind.u64.wrap (more*2^(min 8 IntKind.u64.bits))=d)(hd:0<=d/\d<2^60/\d%256=0)(hops:OpsIn R ops l)(h:Sat w R)
  (k: ∀out ps w',LevK (ps.map PlM.sp) (batE l d)->Sat w' (PSp out ps::R)->K (out,true) w'):F18 ops more K w:=by
 unfold F18
 refine call10 (spec10 om hops h fun r3 w hr3 h=>?_)
 refine call9 (spec9 hl om hne (OpsIn.buf hr3) h fun pts dl rg ps w _ hrng h=>?_)
 replace h:Sat w (PSp rg ps::R):=(h.mv 1).tail
 refine ifn (fun hh=>nomatch hh) fun _=>?_
 have hwr:=hrng.wr hl hn hd
 have hlv:=hrng.lev hl om hd
 have hun:=hrng.und hl hn hd
 have hbk:=fun(out:List SpanM)=>hrng.back (out:=out) hl hn hd
 rw[<-bmpP_sp]at hwr hlv hun hbk
 have hpn:=hwr.n
 rw[List.length_map,List.length_map]at hpn
 have hkp: ∀x∈ps,∀m∈x.keys,0<=m.tr/\m.tr<2^60:=fun x hx m hm=>by
  have h1:=(eKey_props hl om m ((hrng.key x.sp (List.mem_map.2 ⟨x,hx,rfl⟩)).mem_iff.1 hm)).1
  omega
 clear hrng
 refine⟨fun m (z:Sl×Int) w=> ∃(i:Nat) (pb:List PlM),z.2=(i:Int)/\i<=ps.length/\m=ps.length-i/\pb.map PlM.sp=unS ((ps.take i).map fun x=>(bmpP d x).sp)/\Sat w (PSp z.1 pb::PSp rg (mt (bmpP d) ps i)::R),⟨_,0,[],rfl,Nat.zero_le _,rfl,rfl,pspNil h⟩,?_⟩
 clear h
 rintro m ⟨back,z⟩ w ⟨i,pb,hzi,hi,hm,hpb,h⟩
 dsimp only at hzi h|-
 subst hzi
 have hrn:=psp_len h.t1
 rw[mt_len]at hrn
 refine ifd (fun hlt=>?_) (fun hge=>?_)
 rotate_left
 ·have hie:i=ps.length:=by omega
  rw[hie,List.take_length]at hpb
  have e9:(ps.map fun x=>(bmpP d x).sp)=(ps.map (bmpP d)).map PlM.sp:=by rw[List.map_map];rfl
  rw[e9]at hpb
  refine call42 (spec42 (ss:=unS ((ps.map (bmpP d)).map PlM.sp)) (ys:=fun j=>(pb.getD j pld).kx) (fun w h=>by rw[<-hpb];exact PSp.rd h) (unS_pw hwr.ok) (fun s hs=>(hwr.unz s hs).1) (fun s hs=>(hwr.unz s hs).2) hun (by rw[unS_keys];have:=hwr.unl;omega) (by have:=hwr.unl;omega) h fun out po w h1 h2 h3 h=>?_)
  refine k out po w (hbk _ h1 h2 ?_) (Sat.drop 2 (h.pt 2))
  refine Nat.lt_of_le_of_lt (Nat.le_trans h3 (Nat.mul_le_mul (show _<=28831 by have:=hwr.unl;omega) (show _<=28831 by have:=hwr.unl;omega))) om
 have hil:i<ps.length:=by omega
 have hx:ps[i]? =some ps[i]:=List.getElem?_eq_getElem hil
 have hmem:=List.getElem_mem hil
 have htk:ps.take (i+1)=ps.take i++[ps[i]]:=by rw[List.take_add_one,hx];rfl
 generalize ps[i]=x at hx hmem htk
 have hxm:(bmpP d x).sp∈(ps.map (bmpP d)).map PlM.sp:=List.mem_map.2 ⟨_,List.mem_map.2 ⟨x,hmem,rfl⟩,rfl⟩
 have hkl:x.keys.length<=30:=by
  have:=hwr.kl _ hxm
  have e:(bmpP d x).sp.keys.length=x.keys.length:=List.length_map ..
  rwa[e]at this
 have hsz:=hwr.ok.sz _ hxm
 have hnk:=hwr.nk _ hxm
 have hsq:=hwr.sq _ hxm
 have hxi:(mt (bmpP d) ps i)[i]? =some x:=by rw[mt_get];exact hx
 have e9:(mt (bmpP d) ps i).set i (bmpP d x)=mt (bmpP d) ps (i+1):=mt_set (bmpP d) ps i x hx
 have hrow: ∀{w:World} {Q:List PlM} {y:PlM} {L:List Chunk},Sat w (PSp rg Q::L)->Q[i]? =some y-> ∃e,rg.a=some e/\RdL w (e.add (i*3)) [.string y.lo,.string y.hi,.slice y.kx.a y.kx.n y.kx.c]/\PKeysRd w y.kx y.keys:=by
  intro w Q y L h hy
  have hi':i<Q.length:=(List.getElem?_eq_some_iff.1 hy).1
  obtain⟨e,he,hr,hk⟩:=(PSp.rd h).2 i (by rw[List.length_map];exact hi')
  have e2:Q.getD i pld=y:=by rw[List.getD_eq_getElem?_getD,hy];rfl
  have e3:(Q.map PlM.sp)[i]'(by rw[List.length_map];exact hi')=y.sp:=by
   rw[List.getElem_map]
   rw[List.getElem?_eq_getElem hi']at hy
   injection hy with hy
   rw[hy]
  dsimp only at hr hk
  rw[e3]at hr hk
  rw[e2]at hr hk
  exact⟨e,he,hr,hk⟩
 obtain⟨e,he,hr,_⟩:=hrow h.t1 hxi
 rw[Int.toNat_natCast,w1 om]
 refine⟨⟨by omega,hlt⟩,e,he,LdR hr (NewP_run h fun n9 w h=>StL_of (St1 h rfl fun w h=>St1 h rfl fun w h=>St1 h rfl fun w h=>?_))⟩
 simp only[StC]
 refine Ld1 h (bump18 (Q:=mt (bmpP d) ps i) (x:=x) (L:=PSp back pb::R) hD ⟨hd.1,hd.2.1⟩ hxi om (hkp x hmem) (h.mv 2) fun w h=>?_)
 rw[e9]at h
 have hxi2:(mt (bmpP d) ps (i+1))[i]? =some (bmpP d x):=by
  rw[<-e9,List.getElem?_set_self (by rw[mt_len];exact hil)]
 refine LdN h ?_
 refine call40 (s1:=(x.lo,x.hi,x.kx)) (spec40 (s:=(bmpP d x).sp) (y:=x.kx) (fun w h=>(hrow h hxi2).choose_spec.2.2) hsz.2 (fun m hm=>(hnk m hm).ok) hsq (Nat.lt_of_le_of_lt (hwr.kl _ hxm) om) h fun o8 w ho8 h=>?_)
 refine ifn (fun hh=>nomatch hh) fun _=>?_
 replace h:Sat w (PSp back pb::Buf 3 o8 (((bmpP d x).sp.keys.map (entK (bmpP d x).sp)).flatMap epc)::PSp rg (mt (bmpP d) ps (i+1))::R):=((h.mv 2).tail.mv 2)
 have hkl2:=hwr.kl _ hxm
 have hnext:unS ((ps.take (i+1)).map fun x=>(bmpP d x).sp)=unS ((ps.take i).map fun x=>(bmpP d x).sp)++(bmpP d x).sp.keys.map fun m=>(⟨x.lo,x.hi,[m]⟩:SpanM):=by
  rw[htk,List.map_append]
  unfold unS
  rw[List.flatMap_append]
  congr 1
  simp only[List.map_cons,List.map_nil,List.flatMap_cons,List.flatMap_nil,List.append_nil]
  rfl
 rw[<-hpb]at hnext
 have hbn:pb.length<=28830:=by
  have h1:=hwr.unl
  have e1:=congrArg List.length hpb
  rw[List.length_map]at e1
  rw[e1]
  refine Nat.le_trans (unS_len (M:=30) fun s hs=>?_) (Nat.le_trans (Nat.mul_le_mul_right 30 (show _<=961 by rw[List.length_map,List.length_take];omega)) om)
  obtain⟨y,hy,rfl⟩:=List.mem_map.1 hs
  exact hwr.kl _ (List.mem_map.2 ⟨_,List.mem_map.2 ⟨y,List.mem_of_mem_take hy,rfl⟩,rfl⟩)
 have hlo:(bmpP d x).sp.lo=x.lo:=rfl
 have hhi:(bmpP d x).sp.hi=x.hi:=rfl
 generalize hsp:(bmpP d x).sp=sp at*
 refine⟨fun m' (z:Sl×Int) w=> ∃(j:Nat) (pc:List PlM),z.2=(j:Int)/\j<=sp.keys.length/\m'=sp.keys.length-j/\pc.map PlM.sp=pb.map PlM.sp++(sp.keys.take j).map (fun m=>(⟨x.lo,x.hi,[m]⟩:SpanM))/\Sat w (PSp z.1 pc::Buf 3 o8 ((sp.keys.map (entK sp)).flatMap epc)::PSp rg (mt (bmpP d) ps (i+1))::R),⟨_,0,pb,rfl,Nat.zero_le _,rfl,by rw[List.take_zero,List.map_nil,List.append_nil],h⟩,?_⟩
 clear h
 rintro m' ⟨bk,z⟩ w ⟨j,pc,hzj,hj,hm',hpc,h⟩
 dsimp only at hzj h|-
 subst hzj
 refine ifd (fun hlt2=>?_) (fun hge2=>?_)
 rotate_left
 ·have hje:j=sp.keys.length:=by omega
  rw[hje,List.take_length,<-hnext]at hpc
  exact⟨_,by omega,i+1,pc,rfl,hil,rfl,hpc,(h.mv 1).tail⟩
 have hjl:j<sp.keys.length:=by omega
 have hq:sp.keys[j]? =some sp.keys[j]:=List.getElem?_eq_getElem hjl
 have hqn:=hnk _ (List.getElem_mem hjl)
 have htq:sp.keys.take (j+1)=sp.keys.take j++[sp.keys[j]]:=by rw[List.take_add_one,hq];rfl
 generalize sp.keys[j]=q at hq hqn htq
 obtain⟨a,ha,hra⟩:=rowBuf (f:=epc) (k:=3) (fun _=>rfl) (by decide) h .k1 (show(sp.keys.map (entK sp))[j]? =some (entK sp q) by rw[List.getElem?_map,hq];rfl)
 unfold epc at hra
 rw[w1 om,Int.toNat_natCast]
 refine⟨⟨by omega,hlt2⟩,a,ha,LdR hra (NewP_run h fun ac w h=>StL_of (St1 h rfl fun w h=>St1 h rfl fun w h=>St1 h rfl fun w h=>?_))⟩
 simp only[StC]
 refine LdN h (call41 (e1:=entK sp q) (spec41k hqn hsz.2 h fun kx w hkx h=>?_))
 refine NewP_run h fun af w h=>StL_of (St1 h rfl fun w h=>St1 h rfl fun w h=>St1 h rfl fun w h=>?_)
 simp only[StC]
 refine ifn (fun hh=>nomatch hh) fun _=>LdN h (NewS_run h fun p w h=>?_)
 obtain⟨a1,a2,h3⟩:=pspOpen (h.mv 4)
 have hcn:pc.length<=28860:=by
  have e1:=congrArg List.length hpc
  rw[List.length_map,List.length_append,List.length_map,List.length_map,List.length_take]at e1
  omega
 refine App1 (k:=3) rfl h3 .here .k2 rfl (plc_one ⟨sp.lo,sp.hi,kx,[q]⟩) ?_ om fun r w er ea h=>?_
 ·show(2*(bk.n+1)+1024)*56<=_
  omega
 have h4:=pspSnoc (ps:=pc) (x:=⟨sp.lo,sp.hi,kx,[q]⟩) (r:=r) om a2 hkx ((h.mv 4).mv 1)
 refine⟨_,by omega,j+1,pc++[PlM.mk sp.lo sp.hi kx [q]],rfl,hjl,rfl,?_,Sat.drop 3 (h4.pt 3)⟩
 rw[List.map_append,hpc,htq,List.map_append,List.append_assoc]
 show _++(_++[(⟨sp.lo,sp.hi,[q]⟩:SpanM)])=_
 rw[hlo,hhi];rfl
end Go.Proofs.YtpkoddfamelnhaaGreatDoor
namespace Go.Tr
theorem Sat.dropL {w X R}(h:Sat w (X++R)):Sat w R:=by
 have:=Go.Proofs.YtpkoddfamelnhaaGreatDoor.Sat.drop X.length h
 rwa[List.drop_left]at this
end Go.Tr
namespace Go.Proofs.YtpkoddfamelnhaaGreatDoor
open Go Go.Tr
set_option maxRecDepth 100000
def histE (b:Nat->List OpM):Nat->List (ByteArray->List KeyM)
 |0=>[]
 |i+1=>batE (b i) ((i:Int)*268435456)::histE b i
def histF (b:Nat->List OpM)(y:ByteArray):Nat->List KeyM
 |0=>[]
 |i+1=>histF b y i++batE (b i) ((i:Int)*268435456) y
def histS (b:Nat->List OpM)(y:ByteArray):Nat->List SV
 |0=>[]
 |i+1=>rsAll (bsKeys y (b i)) (histS b y i)
def BatOK (l:List OpM):Prop:=l≠ []/\l.length<=30/\ ∀o∈l,OpOK o
theorem hist_pr {b:Nat->List OpM}{i:Nat}(hi:i<5)(h:BatOK (b i))(y:ByteArray): ∀m∈batE (b i) ((i:Int)*268435456) y,(i:Int)*268435456<=m.tr/\m.tr<((i:Int)+1)*268435456/\(i:Int)*1048576<=m.tr/256/\m.tr/256<((i:Int)+1)*1048576:=by
 intro m hm
 have:=(batE_pr h.2.2 (by have:=h.2.1;omega) (d:=(i:Int)*268435456) om y m hm).1
 omega
theorem histE_mem {b:Nat->List OpM}{y:ByteArray}{m:KeyM}: ∀{n:Nat},m∈((histE b n).flatMap fun E=>E y)↔ ∃i,i<n/\m∈batE (b i) ((i:Int)*268435456) y
 |0=>by
  refine⟨fun h=>?_,fun⟨i,hi,_⟩=>absurd hi (Nat.not_lt_zero _)⟩
  cases h
 | n + 1 => by
  have e:((histE b (n+1)).flatMap fun E=>E y)=batE (b n) ((n:Int)*268435456) y++((histE b n).flatMap fun E=>E y):=rfl
  rw[e,List.mem_append,histE_mem]
  constructor
  ·rintro(h|⟨i,hi,h⟩)
   ·exact⟨n,Nat.lt_succ_self n,h⟩
   ·exact⟨i,by omega,h⟩
  ·rintro⟨i,hi,h⟩
   by_cases e:i=n
   ·subst e;exact .inl h
   ·exact .inr ⟨i,by omega,h⟩
theorem histF_mem {b:Nat->List OpM}{y:ByteArray}{m:KeyM}: ∀{n:Nat},m∈histF b y n↔ ∃i,i<n/\m∈batE (b i) ((i:Int)*268435456) y
 |0=>by
  refine⟨fun h=>?_,fun⟨i,hi,_⟩=>absurd hi (Nat.not_lt_zero _)⟩
  cases h
 | n + 1 => by
  unfold histF
  rw[List.mem_append,histF_mem]
  constructor
  ·rintro(⟨i,hi,h⟩|h)
   ·exact⟨i,by omega,h⟩
   ·exact⟨n,Nat.lt_succ_self n,h⟩
  ·rintro⟨i,hi,h⟩
   by_cases e:i=n
   ·subst e;exact .inr h
   ·exact .inl ⟨i,by omega,h⟩
theorem histE_nd {b:Nat->List OpM}{y:ByteArray}: ∀{n:Nat},n<=5->(∀i,i<n->BatOK (b i))->(((histE b n).flatMap fun E=>E y).map (·.tr)).Nodup
 |0,_,_=>List.Pairwise.nil
 |n+1,hn,h=>by
  have e:((histE b (n+1)).flatMap fun E=>E y)=batE (b n) ((n:Int)*268435456) y++((histE b n).flatMap fun E=>E y):=rfl
  have hb:=h n (Nat.lt_succ_self n)
  rw[e,List.map_append,List.nodup_append]
  refine⟨List.pairwise_map.2 ((batE_tr hb.2.2 _ _).imp fun h=>Int.ne_of_lt h),histE_nd om fun i hi=>h i om,fun x hx z hz e=>?_⟩
  obtain⟨m,hm,rfl⟩:=List.mem_map.1 hx
  obtain⟨q,hq,rfl⟩:=List.mem_map.1 hz
  obtain⟨i,hi,hq⟩:=histE_mem.1 hq
  have h1:=hist_pr om hb y m hm
  have h2:=hist_pr om (h i om) y q hq
  omega
theorem histF_tr {b:Nat->List OpM}{y:ByteArray}: ∀{n:Nat},n<=5->(∀i,i<n->BatOK (b i))->(histF b y n).Pairwise fun a b=>a.tr<b.tr
 |0,_,_=>List.Pairwise.nil
 |n+1,hn,h=>by
  have hb:=h n (Nat.lt_succ_self n)
  unfold histF
  refine List.pairwise_append.2 ⟨histF_tr om fun i hi=>h i om,batE_tr hb.2.2 _ _,fun q hq m hm=>?_⟩
  obtain⟨i,hi,hq⟩:=histF_mem.1 hq
  have h1:=hist_pr om hb y m hm
  have h2:=hist_pr om (h i om) y q hq
  omega
theorem histF_rs {b:Nat->List OpM}{y:ByteArray}: ∀{n:Nat},(∀i,i<n->BatOK (b i))->rsAll (histF b y n).reverse []=histS b y n
 |0,_=>rfl
 |n+1,h=>by
  unfold histF histS
  rw[List.reverse_append,rsAll_app,batE_rs (h n (Nat.lt_succ_self n)).2.2 om,histF_rs fun i hi=>h i om]
theorem histS_len {b:Nat->List OpM}{y:ByteArray}: ∀{n:Nat},(∀i,i<n->BatOK (b i))->(histS b y n).length<=30*n
 |0,_=>Nat.le_refl _
 |n+1,h=>by
  unfold histS
  have h1:=rsAll_len (histS b y n) (bsKeys y (b n))
  have h2:=bsKeys_len y (b n)
  have h3:=histS_len (y:=y) (n:=n) fun i hi=>h i om
  have h4:=(h n (Nat.lt_succ_self n)).2.1
  omega
theorem histS_step {b:Nat->List OpM}{y:ByteArray}{n:Nat}{res res':List SV}(h:SvRes (histS b y n) res)(h':SvRes (rsAll (bsKeys y (b n)) res) res'):SvRes (histS b y (n+1)) res':=⟨h'.perm.trans (rsAll_perm h.perm _),h'.so⟩
theorem hist_c {b:Nat->List OpM}{kb:ByteArray}{a n:Nat}{res:List SV}(ha:a<=n)(hn:n<=5)(h: ∀i,i<n->BatOK (b i))(hr:SvRes (histS b kb a) res):IsC ((a:Int)*1048576) ((histE b n).flatMap fun E=>E kb) res:=by
 have h': ∀i,i<a->BatOK (b i):=fun i hi=>h i om
 have c1:IsC ((a:Int)*1048576) (histF b kb a) res:=by
  refine IsC.of_rs (histF_tr om h') (fun m hm=>?_) (by rw[histF_rs h'];exact hr)
  obtain⟨i,hi,hm⟩:=histF_mem.1 hm
  have:=hist_pr om (h i om) kb m hm
  omega
 refine c1.of_mem fun m hm=>?_
 rw[histF_mem,histE_mem]
 constructor
 ·rintro⟨i,hi,h1⟩
  exact⟨i,by omega,h1⟩
 ·rintro⟨i,hi,h1⟩
  have:=hist_pr om (h i hi) kb m h1
  exact⟨i,by omega,h1⟩
abbrev Lv :=Sl×List PlM×(ByteArray->List KeyM)
def lvC (lv:List Lv):List Chunk:=lv.map fun p=>PSp p.1 p.2.1
def lvR (lv:List Lv):List Value:=lv.map fun p=>.slice p.1.a p.1.n p.1.c
def lvd :Lv:=(nl,[],fun _=>[])
theorem take_map {α:Type}{f:α->Chunk}{R}: ∀{l:List α} {j:Nat} {x:α},l[j]? =some x-> ∃L',Take (l.map f++R) (f x) L'
 | [],j,x,h=>by simp at h
 |y::l,0,x,h=>by
  simp only[List.getElem?_cons_zero,Option.some.injEq]at h
  subst h
  exact⟨_,.here⟩
 |y::l,j+1,x,h=>by
  obtain⟨L',t⟩:=take_map (f:=f) (R:=R) (l:=l) (by simpa using h)
  exact⟨_,.there t⟩
theorem bufS {k:Nat}{d:Sl}{cs:List Value}{w L R}(h:Sat w L)(t:Take L (Buf k d cs) R):RdS w d.a (d.n*k) cs:=by
 obtain⟨g,hb,hg,_⟩:=h.take t
 obtain⟨a,n,c⟩:=d
 cases a with
 |none=>exact hb.2.2.1
 |some a=>
  obtain⟨hl,sp,_,ha⟩:=hb
  exact⟨hl,RdL.left (ys:=sp) fun j v e=>(hg _ _ (ha.1 j v e)).1⟩
theorem OpsIn.upL {X R}{x:Sl}{l:List OpM}(h:OpsIn R x l):OpsIn (X++R) x l:=⟨h.1,fun w hs=>h.2 w hs.dropL⟩
theorem lvRd {lv:List Lv}{x:Sl}{R w}(hn:x.n=lv.length)(h:Sat w (Buf 1 x (lvR lv)::(lvC lv++R))):PLevRd w x (fun j=>(lv.getD j lvd).1) (fun j i=>((lv.getD j lvd).2.1.getD i pld).kx) (lv.map fun p=>p.2.1.map PlM.sp):=by
 refine⟨by rw[List.length_map];exact hn,fun j hj=>?_⟩
 rw[List.length_map]at hj
 have e:=List.getElem?_eq_getElem hj
 have hg:lv.getD j lvd=lv[j]:=by rw[List.getD_eq_getElem?_getD,e];rfl
 rw[List.getElem_map]
 dsimp only
 rw[hg]
 generalize lv[j]=p at e
 obtain⟨a,ha,hc⟩:=rdBuf h .here (j:=j) (v:=.slice p.1.a p.1.n p.1.c) (by unfold lvR;rw[List.getElem?_map,e];rfl)
 refine⟨a,ha,by rw[Nat.mul_one];exact hc,?_⟩
 obtain⟨L',t⟩:=take_map (f:=fun p:Lv=>PSp p.1 p.2.1) (R:=R) e
 exact PSp.rd ((h.tail).take t)
structure BatsIn (R:List Chunk)(x:Sl)(zs:Nat->Sl)(B:List (List OpM)):Prop where
 n:x.n=B.length
 nc:x.n<=x.c
 row: ∀(j:Nat) (l:List OpM),B[j]? =some l->OpsIn R (zs j) l
 rd: ∀w,Sat w R-> ∀j,j<B.length-> ∃e,x.a=some e/\w.cell? (e.add (j*1))=some (.slice (zs j).a (zs j).n (zs j).c)
theorem spec17 {x:Sl}{zs:Nat->Sl}{B:List (List OpM)}{R w}{K:Bool->WP}(hb:BatsIn R x zs B)(h:Sat w R)(k: ∀b w',(b=true->B.length<=2147483647/\ ∀l∈B,l.length<=2147483647)->Sat w' R->K b w'):F17 x K w:=by
 have hn:=hb.n
 unfold F17
 refine ifd (fun _=>k _ _ (fun hh=>nomatch hh) h) fun hle=>?_
 refine⟨fun m (z:Int) w=> ∃j:Nat,z=(j:Int)/\j<=B.length/\m=B.length-j/\(∀l∈B.take j,l.length<=2147483647)/\Sat w R,⟨_,0,rfl,Nat.zero_le _,rfl,fun l hl=>(by cases hl),h⟩,?_⟩
 clear h
 rintro m z w ⟨j,rfl,hj,hm,hp,h⟩
 refine ifd (fun hlt=>?_) (fun hge=>?_)
 ·have hjl:j<B.length:=by omega
  have hr:B[j]? =some B[j]:=List.getElem?_eq_getElem hjl
  obtain⟨e,he,hc⟩:=hb.rd w h j hjl
  have htk:B.take (j+1)=B.take j++[B[j]]:=by rw[List.take_add_one,hr];rfl
  rw[w1 om,Int.toNat_natCast]
  refine⟨⟨by omega,hlt⟩,e,he,LdC hc ?_⟩
  refine call6 (spec6 (hb.row j _ hr) h fun b w h1 h=>ifn (fun _=>k _ _ (fun hh=>nomatch hh) h) fun hb1=>⟨_,?_,j+1,rfl,hjl,rfl,fun l hl=>?_,h⟩)
  ·omega
  ·rw[htk]at hl
   rcases List.mem_append.1 hl with hl|hl
   ·exact hp l hl
   ·rw[List.mem_singleton.1 hl];exact h1 hb1
 ·have hjl:j=B.length:=by omega
  rw[hjl,List.take_length]at hp
  exact k _ _ (fun _=>⟨by omega,hp⟩) h
set_option maxHeartbeats 4000000 in
theorem spec5 {bat:Sl}{zs:Nat->Sl}{B:List (List OpM)}{n:Nat}{kb:ByteArray}{R w}{K:Bool->WP}(hsz: ∀l∈B,∀o∈l,o.size<2^32)(hb:BatsIn R bat zs B)(hn8:n<256)(h:Sat w R)(k: ∀w',Sat w' R->K true w'):F5 bat (n:Int) kb K w:=by
 have hbn:=hb.n
 have hbc:=hb.nc
 unfold F5
 refine⟨fun _ w=>(B.length<=2147483647/\ ∀l∈B,l.length<=2147483647)/\Sat w R,?_,?_⟩
 rotate_left
 ·exact call17 (spec17 hb h fun b w h1 h=>ifnf (fun hb1=>ifd (fun _=>k _ h) fun _=>⟨h1 hb1,h⟩) (fun _=>k _ h))
 clear h
 rintro _ w ⟨⟨hB,hBl⟩,h⟩
 refine⟨fun _ w=>B.length<=5/\Sat w R,?_,?_⟩
 rotate_left
 ·refine ifdf (fun hg=>call11 (spec11 h fun w h=>k w h)) (fun hg=>?_)
  exact call11 (spec11 h fun w h=>ifn (fun hh=>nomatch hh) fun _=>⟨by omega,h⟩)
 clear h
 rintro _ w ⟨hB5,h⟩
 have hbg: ∀{j:Nat} {l:List OpM},B[j]? =some l->B.getD j []=l:=fun e=>by rw[List.getD_eq_getElem?_getD,e];rfl
 refine⟨fun m (z:Sl×Int) w=> ∃(i:Nat) (lv:List Lv),z.2=(i:Int)/\i<=B.length/\m=B.length-i/\z.1.n=i/\lv.length=i/\lv.map (·.2.2)=histE (fun j=>B.getD j []) i/\(∀p∈lv,LevK (p.2.1.map PlM.sp) p.2.2)/\(∀j,j<i->BatOK (B.getD j []))/\Sat w (Buf 1 z.1 (lvR lv)::(lvC lv++R)),⟨_,0,[],rfl,Nat.zero_le _,rfl,rfl,rfl,rfl,fun p hp=>(by cases hp),fun j hj=>absurd hj (Nat.not_lt_zero _),h.bufNil 1⟩,?_⟩
 clear h
 rintro m ⟨lvS,z⟩ w ⟨i,lv,hz,hi,hm,hln,hll,hlE,hlK,hok,h⟩
 dsimp only at hz hln h|-
 subst hz
 refine ifd (fun hlt=>?_) (fun hge=>?_)
 ·have hil:i<B.length:=by omega
  have hr:B[i]? =some B[i]:=List.getElem?_eq_getElem hil
  have hmem:=List.getElem_mem hil
  generalize B[i]=l at hr hmem
  have hrow:=hb.row i l hr
  have hszl:=hsz l hmem
  have hll2:=hBl l hmem
  have hg:=hbg hr
  have hz:(zs i).n=l.length:=hrow.1
  obtain⟨e,he,hc⟩:=hb.rd w h.tail.dropL i hil
  rw[w1 om,Int.toNat_natCast]
  refine⟨⟨by omega,hlt⟩,e,he,LdC hc ?_⟩
  clear hc
  refine⟨fun _ w=>BatOK l/\Sat w (Buf 1 lvS (lvR lv)::(lvC lv++R)),?_,?_⟩
  rotate_left
  ·refine ifdf (fun _=>k _ h.tail.dropL) (fun h30=>?_)
   refine call7 (spec7 hll2 (hrow.upL.up) h fun b1 w h1 h=>ifnf (fun hb1=>?_) (fun _=>k _ h.tail.dropL))
   refine call8 (spec8 hll2 (hrow.upL.up) h fun b2 w h2 h=>ifn (fun _=>k _ h.tail.dropL) fun hb2=>⟨⟨?_,by dsimp only at h30;omega,fun o ho=>((h1 hb1).2.2 o ho).ok (h2 hb2 o ho) (hszl o ho)⟩,h⟩)
   intro e
   have:=(h1 hb1).1
   rw[e]at this
   exact absurd this (Nat.lt_irrefl _)
  clear h
  rintro _ w ⟨hbo,h⟩
  refine⟨by omega,?_⟩
  have hD:IntKind.u64.wrap (IntKind.u64.wrap (IntKind.u64.wrap (i:Int)*2^(min 20 IntKind.u64.bits))*2^(min 8 IntKind.u64.bits))=(i:Int)*268435456:=by
   have e1:IntKind.u64.wrap ((i:Int)*2^20)=(i:Int)*2^20:=wu64 om om
   rw[show min 20 IntKind.u64.bits=20 from rfl,show min 8 IntKind.u64.bits=8 from rfl,wu64n om,e1,wu64 om om]
   omega
  refine call18 (spec18 hbo.2.2 hbo.2.1 hbo.1 hD om hrow.upL.up h fun out ps w hlev h=>?_)
  refine ifn (fun hh=>nomatch hh) fun _=>NewS_run h fun p w h=>?_
  have h2:Sat w (Buf 1 ⟨some p,1,1⟩ [.slice out.a out.n out.c]::PSp out ps::Buf 1 lvS (lvR lv)::(lvC lv++R)):=h.cons fun g hg=>⟨rfl,[],rfl,by rw[List.append_nil];exact hg⟩
  clear h
  have hrl:(lvR lv).length=i:=by unfold lvR;rw[List.length_map];exact hll
  refine AppP_run (s:=si35) (d:=⟨some p,1,1⟩) (new:=lvR lv) h2 (bufS h2 .k2) (by rw[hrl,hln];exact(Nat.mul_one _).symm) (fun v hv=>?_) ?_ ?_ fun r w hrn _ h=>?_
  ·obtain⟨p,_,rfl⟩:=List.mem_map.1 hv
   rfl
  ·show(2*(1+lvS.n)+1024)*24<=_
   omega
  ·dsimp only;omega
  refine⟨_,?_,i+1,(out,ps,batE l ((i:Int)*268435456))::lv,rfl,hil,rfl,?_,?_,?_,?_,?_,(h.mv 2).tail⟩
  ·omega
  ·rw[hrn];dsimp only;omega
  ·rw[List.length_cons,hll]
  ·rw[List.map_cons,hlE]
   show _::_=batE (B.getD i []) ((i:Int)*268435456)::_
   rw[hg]
  ·intro q hq
   rcases List.mem_cons.1 hq with rfl|hq
   ·exact hlev
   ·exact hlK q hq
  ·intro j hj
   by_cases ej:j=i
   ·rw[ej,hg];exact hbo
   ·exact hok j om
 have hie:i=B.length:=by omega
 subst hie
 have hat:(IntKind.i64.wrap (n:Int)).tmod (IntKind.i64.wrap ((bat.n:Int)+1))=((n%(B.length+1):Nat):Int):=by
  rw[wi64 om om,hbn,w1 om]
  rfl
 have hal:n%(B.length+1)<=B.length:=Nat.le_of_lt_succ (Nat.mod_lt _ (Nat.succ_pos _))
 rw[hat]
 clear hat
 generalize n%(B.length+1)=a at hal
 rw[Int.toNat_natCast]
 refine⟨by rw[hbn,w1 om];omega,⟨by omega,by omega⟩,?_⟩
 refine⟨fun m (z:Sl×Int) w=> ∃(j:Nat) (res:List SV),z.2=(j:Int)/\j<=a/\m=a-j/\z.1.n=res.length/\SvRes (histS (fun j=>B.getD j []) kb j) res/\Sat w (Buf 2 z.1 (res.flatMap svc)::Buf 1 lvS (lvR lv)::(lvC lv++R)),⟨_,0,[],rfl,Nat.zero_le _,rfl,rfl,⟨List.Perm.refl _,List.Pairwise.nil⟩,h.bufNil 2⟩,?_⟩
 clear h
 rintro m ⟨st,z⟩ w ⟨j,res,hz,hj,hm,hsn,hres,h⟩
 dsimp only at hz hsn h|-
 subst hz
 have hrl:res.length<=150:=by
  rw[hres.perm.length_eq]
  have:=histS_len (y:=kb) (n:=j) fun i hi=>hok i om
  omega
 refine ifd (fun hlt=>?_) (fun hge=>?_)
 ·have hjl:j<B.length:=by omega
  have hr:B[j]? =some B[j]:=List.getElem?_eq_getElem hjl
  generalize B[j]=l at hr
  have hrow:=hb.row j l hr
  have hg:=hbg hr
  have hbo:=hok j hjl
  rw[hg]at hbo
  obtain⟨e,he,hc⟩:=hb.rd w h.tail.tail.dropL j hjl
  rw[w1 om,Int.toNat_natCast]
  refine⟨⟨by omega,hlt⟩,e,he,LdC hc ?_⟩
  refine call12 (state1:=st) (spec12 (s0:=res) ⟨hsn,fun w h=>bufS h .here⟩ om (by have:=hbo.2.1;omega) hrow.upL.up.up h fun out res' w hon hres' h=>?_)
  refine⟨_,?_,j+1,res',rfl,by omega,rfl,hon,histS_step hres ?_,(h.mv 1).tail⟩
  ·omega
  ·show SvRes (rsAll (bsKeys kb (B.getD j [])) res) res'
   rw[hg];exact hres'
 have hja:j=a:=by omega
 subst hja
 refine⟨by omega,NewS_run h fun ae w h=>?_⟩
 have hsnap:IntKind.u64.wrap (IntKind.u64.wrap (j:Int)*2^(min 20 IntKind.u64.bits))=(j:Int)*1048576:=by
  rw[show min 20 IntKind.u64.bits=20 from rfl,wu64n om,wu64 om om]
  omega
 rw[hsnap]
 have hLE:(lv.map fun p=>(p.2.1.map PlM.sp,p.2.2)).map (·.1)=lv.map fun p=>p.2.1.map PlM.sp:=by rw[List.map_map];rfl
 have hfl: ∀y,((lv.map fun p=>(p.2.1.map PlM.sp,p.2.2)).flatMap fun q:LevE=>q.2 y)=(histE (fun j=>B.getD j []) B.length).flatMap fun E=>E y:=fun y=>by
  rw[<-hlE,List.flatMap_map,List.flatMap_map]
 have hLK: ∀q∈(lv.map fun p=>(p.2.1.map PlM.sp,p.2.2):List LevE),LevK q.1 q.2:=fun q hq=>by
  obtain⟨p,hp,rfl⟩:=List.mem_map.1 hq
  exact hlK p hp
 have lg:=lg_of (by rw[List.length_map];omega) hLK fun y=>by
  rw[hfl];exact histE_nd hB5 hok
 have hperm:=keysL_perm hLK kb
 rw[hLE]at lg hperm
 rw[hfl]at hperm
 refine call13 (levels1:=lvS) (lower_3:=(.empty,false)) (upper_4:=(.empty,false)) (steps5:=⟨some ae,1,1⟩) (spec13 (zs:=fun j=>(lv.getD j lvd).1) (ys:=fun j i=>((lv.getD j lvd).2.1.getD i pld).kx) lg (fun w h=>lvRd (by rw[hln,hll]) h.tail) h fun out okk lo hi kx ks w hans hout hkx hkl h=>?_)
 have hgot:=(hans.got.of_mem fun m _=>hperm.mem_iff).unique (hist_c hal hB5 hok hres)
 replace h:Sat w (Buf 5 out [.bool true,.bool okk,.string lo,.string hi,.slice kx.a kx.n kx.c]::Buf 3 kx (ks.flatMap pkc)::Buf 2 st (res.flatMap svc)::Buf 1 lvS (lvR lv)::(lvC lv++R)):=((h.mv 2).tail)
 refine call16 (spec16 (kb:=kb) hkx hkl hout h hans.nok fun r ps w hps h=>?_)
 rw[hgot]at hps
 have hrn:=psp_len h
 have hpl:=congrArg List.length hps
 rw[List.length_map]at hpl
 have fin: ∀{w},Sat w (PSp r ps::Buf 2 st (res.flatMap svc)::Buf 1 lvS (lvR lv)::(lvC lv++R))->K true w:=fun h=>k _ h.tail.tail.tail.dropL
 refine ife (fun e0=>?_) (fun e0=>?_)
 ·have hr0:res=[]:=List.length_eq_zero_iff.1 om
  rw[hr0]at hpl
  have hp0:ps.length=0:=hpl
  have:((r.n:Int)==0)=true:=by rw[hrn,hp0];rfl
  rw[this]
  exact fin h
 have hr0:res≠ []:=fun e=>e0 (by rw[hsn,e];rfl)
 unfold batS at hps hpl
 rw[if_neg hr0]at hps hpl
 have hp1:ps.length=1:=hpl
 obtain⟨x,rfl⟩: ∃x,ps=[x]:=by
  match ps,hp1 with
  | [x],_=>exact⟨x,rfl⟩
 have hxk:x.keys=res.map mk0:=by
  have:[x.sp]=[⟨.empty,.empty,res.map mk0⟩]:=hps
  injection this with this
  exact congrArg SpanM.keys this
 have hrd: ∀{w:World},Sat w (PSp r [x]::Buf 2 st (res.flatMap svc)::Buf 1 lvS (lvR lv)::(lvC lv++R))-> ∃e,r.a=some e/\w.cell? ((e.add (0*3)).add 2)=some (.slice x.kx.a x.kx.n x.kx.c)/\PKeysRd w x.kx (res.map mk0):=fun h=>by
  obtain⟨e,he,hr,hk⟩:=(PSp.rd h).2 0 (Nat.zero_lt_succ _)
  refine⟨e,he,hr 2 _ rfl,?_⟩
  have hk':PKeysRd _ x.kx x.keys:=hk
  rwa[hxk]at hk'
 refine⟨fun _ w=>Sat w (PSp r [x]::Buf 2 st (res.flatMap svc)::Buf 1 lvS (lvR lv)::(lvC lv++R)),?_,?_⟩
 rotate_left
 ·obtain⟨e,he,hc,hk⟩:=hrd h
  have hkn:=hk.1
  rw[List.length_map]at hkn
  refine ifneF (by rw[hrn];rfl) ⟨⟨by omega,by rw[hrn];exact Int.zero_lt_one⟩,e,he,LdC hc (ifne' (by dsimp only;omega) h)⟩
 clear h
 rintro _ w h
 obtain⟨e,he,hc,hk⟩:=hrd h
 have hkn:=hk.1
 rw[List.length_map]at hkn
 refine⟨⟨by omega,by rw[hrn];exact Int.zero_lt_one⟩,e,he,LdC hc ?_⟩
 clear hk hc he
 refine⟨fun m (z:Int) w=> ∃i:Nat,z=(i:Int)/\i<=res.length/\m=res.length-i/\Sat w (PSp r [x]::Buf 2 st (res.flatMap svc)::Buf 1 lvS (lvR lv)::(lvC lv++R)),⟨_,0,rfl,Nat.zero_le _,rfl,h⟩,?_⟩
 clear h
 rintro m' z w ⟨i,rfl,hi,hm',h⟩
 refine ifd (fun hlt=>?_) (fun _=>fin h)
 dsimp only at hlt
 have hil:i<res.length:=by omega
 have hr1:res[i]? =some res[i]:=List.getElem?_eq_getElem hil
 obtain⟨_,_,_,hk⟩:=hrd h
 obtain⟨al,hal2,hra⟩:=hk.2 i (by rw[List.length_map];exact hil)
 rw[List.getElem_map]at hra
 generalize res[i]=q at hr1 hra
 rw[w1 om,Int.toNat_natCast]
 refine⟨⟨by omega,hlt⟩,al,hal2,LdR hra (NewP_run h fun an w h=>StL_of (St1 h rfl fun w h=>St1 h rfl fun w h=>St1 h rfl fun w h=>?_))⟩
 simp only[StC]
 obtain⟨ap,hap,hrb⟩:=rowBuf (f:=svc) (k:=2) (fun _=>rfl) (by decide) (h.near (w':=w.drew)) .k2 hr1
 unfold svc at hrb
 refine Ld1 h ⟨⟨by omega,by omega⟩,ap,hap,LdC (hrb 0 _ rfl) (ifnf (fun _=>?_) (fun hh=>?_))⟩
 ·refine Ld1 h ⟨⟨by omega,by omega⟩,ap,hap,LdC (hrb 1 _ rfl) (ifn (fun hh=>?_) (fun _=>⟨_,?_,i+1,rfl,hil,rfl,h.tail.near⟩))⟩
  ·exact absurd (show(q.2.toList==q.2.toList)=false from hh) (by simp)
  ·omega
 ·exact absurd (show(q.1.toList==q.1.toList)=false from hh) (by simp)
open Go Go.Tr Go.ChangeShapes Go.WideShapes Go.ChangeAt Go.RowKit
open Go.ChangeMaps (open_string shut_string)
theorem cells22 :Tryz.prog.cellsOf 22=1:=by kernel_rfl
theorem open_batsD {H:Type}{enc:TypeId×Value->H}{W}{base:Nat}{sp:Nat->Bool}{held:Bool}{n:Nat}{a:Option Addr}{m c:Nat}{y:DataW H×List MemPlace}(h:DataW.trod enc Tryz.prog W base sp held n 57 [.slice a m c]=some y):
  ∃(zs:Nat->Sl) (B:List (List OpM)),(∀l∈B,∀o∈l,o.size<2^32)/\BatsIn [Own (memD W)] ⟨a,m,c⟩ zs B:=by
 rcases DataW.trod_slice Tryz.underlying57 h with⟨h0,_⟩|⟨e,len,cap,elems,rest,k,_,hcs,_,_,hlc,_,hlen,hel,_⟩
 ·simp only[List.cons.injEq,Value.slice.injEq,and_true]at h0
  obtain⟨rfl,rfl,rfl⟩:=h0
  exact⟨fun _=>nl,[],fun l hl=>by simp at hl,rfl,Nat.le_refl _,fun j l e=>by simp at e,fun w _ j hj=>absurd hj (Nat.not_lt_zero _)⟩
 ·simp only[List.cons.injEq,Value.slice.injEq,and_true]at hcs
  obtain⟨rfl,rfl,rfl⟩:=hcs
  have hx: ∀i,i<m-> ∃q:Sl×List OpM,W.cell? (e.add (i*1))=some (.slice q.1.a q.1.n q.1.c)/\(∀o∈q.2,o.size<2^32)/\OpsIn [Own (memD W)] q.1 q.2:=by
   intro i hi
   have h1:=hel i hi
   rw[cells22,List.getElem?_eq_getElem om,Option.bind_eq_some_iff]at h1
   obtain⟨cs,hc,ht⟩:=h1
   obtain⟨a',m',c',rfl⟩: ∃a' m' c',cs=[.slice a' m' c']:=by
    rcases DataW.trod_slice Tryz.underlying22 ht with⟨h0,_⟩|⟨e',len',cap',_,_,_,_,h0,_⟩
    ·exact⟨_,_,_,h0⟩
    ·exact⟨_,_,_,h0⟩
   obtain⟨l,hl,hs,hr⟩:=open_opsD ht
   exact⟨(⟨a',m',c'⟩,l),(cells_at hc).2 0 _ rfl,hs,opsIn_of hl hr⟩
  obtain⟨P,h1,h2⟩:=choose_list hx
  have hg: ∀(j:Nat) (q:Sl×List OpM),P[j]? =some q->P.getD j (nl,[])=q:=fun j q e=>by rw[List.getD_eq_getElem?_getD,e];rfl
  refine⟨fun j=>(P.getD j (nl,[])).1,P.map (·.2),fun l hl=>?_,by rw[List.length_map];exact h1.symm,hlc,fun j l el=>?_,fun w hs j hj=>⟨e,rfl,hs.dat .here (memD_at ?_)⟩⟩
  ·obtain⟨q,hq,rfl⟩:=List.mem_map.1 hl
   obtain⟨i,hi,e9⟩:=List.getElem_of_mem hq
   exact(h2 i q (by rw[List.getElem?_eq_getElem hi,e9])).2.1
  ·rw[List.getElem?_map,Option.map_eq_some_iff]at el
   obtain⟨q,eq,rfl⟩:=el
   rw[hg j q eq]
   exact(h2 j q eq).2.2
  ·rw[List.length_map]at hj
   have eq:=List.getElem?_eq_getElem hj
   rw[hg j _ eq]
   exact(h2 j _ eq).1
theorem hist_walk {W:World}{a:Option Addr}{m c n:Nat}{zs:Nat->Sl}{B:List (List OpM)}{kb:ByteArray}(hsz: ∀l∈B,∀o∈l,o.size<2^32)(hb:BatsIn [Own (memD W)] ⟨a,m,c⟩ zs B)(hn:n<256):
  Calls Tryz.prog 5 #[.slice a m c,.int .u8 (n:Int),.string kb] W fun e W'=>e= .returned (.bool true)/\Below W.heap.size W W':=by
 refine(ctrC (args:=[.slice a m c,.int .u8 (n:Int),.string kb]) (R:=[.one .bool]) (K:=fun b W'=>b=true/\Sat W' [Own (memD W)]) Tryz.func5 A5 (by kernel_rfl) (by kernel_rfl:_=F5 ⟨a,m,c⟩ (n:Int) kb (fun b W'=>b=true/\Sat W' [Own (memD W)]) W) (spec5 hsz hb hn (memD_sat W) fun w h=>⟨rfl,h⟩)).mono fun e W' h=>?_
 cases e with
 |returned v=>
  obtain⟨x,rfl,⟨rfl,hs⟩,he⟩:=h
  exact⟨rfl,below_of he hs⟩
 |_=>exact h.elim
theorem hist_lifted (os:Os)(started:os.Started)(H:Type)(enc:TypeId×Value->H):
  ReturnsInHanded {} Tryz.checked os 5 .any (fun w args=>(Rows.fnBatchHistorySpec.pre enc Tryz.prog Tryz.f5 [] false w args/\laidMetH Tryz.prog laid3 w)/\sizedMet enc Tryz.prog Tryz.f5 (OpenSpec.ofChange Rows.fnBatchHistorySpec) false w args)
   (Rows.fnBatchHistorySpec.post enc Tryz.prog Tryz.f5 false true false false):=by
 refine returnsInHanded_of_change_and (C:=Tryz.checked) (X:=fun w _=>laidMetH Tryz.prog laid3 w) (fun _ _ _ hh h=>h.of_heap hh) own started (by kernel_rfl) Tryz.func5
  (ChangeSpec.witness_shaped (enc:=enc) (C:=Tryz.checked) (os:=os) (X:=fun w _=>laidMetH Tryz.prog laid3 w) false (World.doorLaid Tryz.prog 400 os) #[.slice none 0 0,.int .u8 0,.string ByteArray.empty] 8 rfl (World.shaped_of_RefB (by kernel_rfl) (by kernel_rfl)) (by kernel_rfl) (by kernel_rfl) (by kernel_rfl) (door_met os _)) ?_
 intro W base args ds gs before hval0 hW _ _ hL _
 have hval: ∀(j:Nat) t v,Tryz.f5.params[j]? =some t->args[j]? =some v->Value.okWide Tryz.prog W .any base t v:=hval0
 have hW':=hW
 obtain⟨p,q,hA0,hV,rfl,hfz,hnd⟩:=hW
 have hA:DataW.TrodAll enc Tryz.prog W 0 (fun _=>true) true Tryz.f5.params.toList args.toList ds p:=hA0
 rw[Tryz.params5]at hA hval
 obtain⟨v0,vs0,d0,ds0,p0,q0,hargs,rfl,rfl,h0,r0⟩:=trodAll_cons hA
 obtain⟨v1,vs1,d1,ds1,p1,q1,rfl,rfl,rfl,h1,r1⟩:=trodAll_cons r0
 obtain⟨v2,vs2,d2,ds2,p2,q2,rfl,rfl,rfl,h2,r2⟩:=trodAll_cons r1
 obtain⟨rfl,rfl,rfl⟩:=trodAll_nil r2
 obtain rfl:args= #[v0,v1,v2]:=by cases args;simp_all
 obtain⟨rfl,rfl⟩:=trodVars_none hV
 obtain⟨a,m,c,rfl⟩:=okWide_slice Tryz.underlying57 (hval 0 57 v0 rfl rfl)
 obtain⟨nz,rfl,rfl,rfl,hwf⟩:=open_int Tryz.underlying5 (hval 1 5 v1 rfl rfl) h1
 obtain⟨kb,rfl,rfl,rfl,hkb⟩:=open_string Tryz.underlying9 (hval 2 9 v2 rfl rfl) h2
 have hb:=Go.bounds_u8 hwf
 obtain⟨n,rfl⟩: ∃n:Nat,nz=(n:Int):=⟨nz.toNat,by omega⟩
 have k0:=h0
 have lt0: ∀x∈p0,x.block<W.heap.size:=by
  obtain⟨m,hm⟩:=k0
  exact DataW.trod_lt m _ _ _ hm
 obtain⟨fuel,hf⟩:=h0
 obtain⟨zs,B,hsz,hB⟩:=open_batsD hf
 clear hA0 hval0
 refine(hist_walk hsz hB om).mono fun e W' ⟨he,bel⟩=>?_
 subst he
 exact⟨_,rfl,_,_,_,[],_,[],hW',trodAll_mk1 (shut_bool Tryz.underlying4 _),trodAll_cons_mk (Below.trod laidOut (by kernel_rfl) (of_decide_eq_true (by kernel_rfl)) k0 bel lt0) (trodAll_cons_mk (shut_int Tryz.underlying5 hwf) (trodAll_cons_mk (shut_string Tryz.underlying9 hkb) trodAll_mk0)),rfl,bel.frame _,fun h=>by cases h⟩
end Go.Proofs.YtpkoddfamelnhaaGreatDoor
