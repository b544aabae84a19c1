/- Part 17 of the proof of fnBatchHistory_card. Conditions: none. -/
import Derived.Test.YtpkoddfamelnhaaGreatDoorH16
set_option linter.unusedVariables false
set_option linter.unusedSimpArgs false
namespace Go.Proofs.YtpkoddfamelnhaaGreatDoor
open Go Go.Tr
set_option maxRecDepth 100000
def UIL (ui bf cq:Addr)(sn:Int)(fnv:Value)(Ks:Sl)(kn:Nat)(cs:List Value)(R:List Chunk):List Chunk:=
 Arr ui [.int .u64 sn,.pointer (some cq)]::Arr (ui.add 93) [.bool false]::Arr (ui.add 94) [.pointer (some bf)]::Arr (bf.add 9) [fnv,.slice Ks.a Ks.n Ks.c]::Buf 3 ⟨Ks.a,kn,Ks.c⟩ cs::R
def KeysGood (c:MC):Prop:= ∀l,l<c.k-> ∀x∈(c.S l).spans,x.keys.length<=1048576/\ ∀m∈x.keys,0<=m.tr/\m.tr<9223372036854775808/\(m.tr%256=19\/m.tr%256=20\/m.tr%256=21)
def Vis (D:Hp)(sn:Int)(ms:List KeyM)(sets:List KC):Prop:= ∃acc out l,KRel D acc ms/\TrSorted acc out/\SufSorted (sbD D) (collect sn out).1 l/\sets=(ded (sbD D) none l).filter isSet
theorem gath_len {c:MC}(hg:KeysGood c)(pos:Nat->Int)(dir:Int): ∀n,n<=c.k->(gath c pos dir n).length<=n*1048576
 |0,_=>by simp[gath]
 | n + 1, h => by
  rw[gath_succ,List.length_append]
  refine lstep (gath_len hg pos dir n om) ?_
  split
  ·unfold lkeys
   cases e:(c.S n).spans[((pos n)/2).toNat]? with
   |none=>simp
   |some x=>exact(hg n om x (List.mem_of_getElem? e)).1
  ·simp
theorem spec218 {c:MC}{s:MSt}{dir:Int}{ui bf cq:Addr}{sn:Int}{fnv:Value}{Ks:Sl}{kn:Nat}{cs:List Value}{R w}{K:(Bool×Option Addr)->WP}(ok:c.Ok)(hdir:dir=1\/dir= -1)(hg:KeysGood c)
  (heq:DAt c.D (cq.add 1) eqV) (htv:c.tv= .iface 214 (.pointer (some ui))) (h:Sat w (MSL c s (UIL ui bf cq sn fnv Ks kn cs R)))
  (k : ∀ (fd : Bool) (sets : List KC) (K' Ks' : Sl) (kn' : Nat) (cs' : List Value) w', (fd = true ↔ ∃ l, l < c.k /\ cover c s.pos dir l = true) -> Vis c.D sn (gath c s.pos dir c.k) sets -> K'.n <= K'.c -> K'.n < 2^40 ->
   Sat w' (MSL c {s with keys:=K',kn:=sets.length,kc:=sets.flatMap kcells,s0:=s.start,s1:=s.end_,s2:=⟨K'.a,sets.length,K'.c⟩,s3:=1} (UIL ui bf cq sn cmpV Ks' kn' cs' R))->
   K (fd,some (c.m.add 4)) w'):F218 (some c.m) dir K w:=by
 unfold F218
 refine⟨fun _ w=>Sat w (MSL c s (UIL ui bf cq sn fnv Ks kn cs R)),fun _ w h=>?_,h⟩
 unfold MSL hp MSR at h
 refine⟨_,rfl,Ld1 h ⟨_,rfl,Ld1 h ⟨_,rfl,Ld1 h ⟨⟨by omega,by dsimp only;omega⟩,_,rfl,St1 h rfl fun w h=>?_⟩⟩⟩⟩
 refine⟨_,rfl,Ld1 h ⟨_,rfl,Ld1 h ?_⟩⟩
 have h2:Sat w (MSL c {s with keys:=⟨s.keys.a,0,s.keys.c⟩,kn:=0,kc:=[]} (UIL ui bf cq sn fnv Ks kn cs R)):=(bufTrunc h.t7).t7.t7.t7.t7.t7.t7.t7
 clear h
 refine gather (s:={s with keys:=⟨s.keys.a,0,s.keys.c⟩,kn:=0,kc:=[]}) ok hdir (fun l hl x hx=>(hg l hl x hx).1) rfl rfl rfl h2 ?_
 rintro acc K' ⟨fd,si⟩ w hrel hK hfd hsi h
 dsimp only at hfd hsi hrel h|-
 have h':=h
 unfold MSL hp MSR at h
 have hal:acc.length<2^32:=by
  have h1:=gath_len hg s.pos dir c.k (Nat.le_refl _)
  rw[<-hrel.len]at h1
  have:=ok.k10
  omega
 refine⟨_,rfl,Ld1 h ⟨_,rfl,?_⟩⟩
 refine sortKeys (s:={s with keys:=K',kn:=K'.n,kc:=acc.flatMap kcells}) rfl rfl hK om h' fun out w hout h=>?_
 obtain⟨hol,hom⟩:=hout.mem
 unfold MSL hp MSR UIL at h
 rw[htv]at h
 refine⟨_,rfl,Ld1 h ⟨_,rfl,Ld1 h ⟨_,rfl,Ld1 h ⟨_,rfl,Ld1 h ⟨_,rfl,StL_of (St1 h rfl fun w h=>St1 h rfl fun w h=>St1 h rfl fun w h=>St1 h rfl fun w h=>?_)⟩⟩⟩⟩⟩
 refine⟨_,rfl,Ld1 h ?_⟩
 refine⟨_,rfl,Ld1 h ⟨_,rfl,Ld1 h ?_⟩⟩
 refine⟨_,rfl,LdN h ?_⟩
 refine⟨_,rfl,trivial,?_⟩
 refine CallI_run m214Transform ?_
 have h3:=h.t7
 rw[<-flat_all kcells kd out,show out.length=K'.n by omega]at h3
 have hnone:K'.a=none->K'.n=0/\K'.c=0:=fun hh=>by
  obtain⟨g,hg',_⟩:=h3
  unfold Buf at hg'
  rw[hh]at hg'
  exact⟨hg'.1,hg'.2.1⟩
 obtain⟨hnc,hka,h4⟩:=bufOpen (k:=3) (p:=c.b) (f:=fun j=>kcells (out.getD j kd)) (fun j _=>rfl) (Nat.succ_pos _) h3
 dsimp only at h4
 have h5:=Sat.split (xs:=[.pointer (some c.b),.slice s.start.a s.start.n s.start.c,.slice s.end_.a s.end_.n s.end_.c,.iface 214 (.pointer (some ui))]) (ys:=_::_::_::_::_) (h4.mv 6)
 have h6:=Sat.split (xs:=[.slice s.start.a s.start.n s.start.c,.slice s.end_.a s.end_.n s.end_.c,.slice K'.a K'.n K'.c,.int .i8 0]) (ys:=[.nilIface,.int .i8 s.dir]) (h5.mv 1)
 have h7:=((((((((h6.mv 8).mv 4).mv 2).mv 16).mv 16).mv 16).mv 16).mv 16)
 simp only[mv,List.length_cons,List.length_nil,Nat.zero_add,Nat.reduceAdd]at h7
 rw[show Rws (K'.a.getD c.b) 3 K'.n (fun j=>kcells (out.getD j kd))=keyRows (K'.a.getD c.b) out from by rw[hK,<-hol]]at h7
 have hoc: ∀k∈out,∃m:KeyM,(0<=m.tr/\m.tr<9223372036854775808/\(m.tr%256=19\/m.tr%256=20\/m.tr%256=21))/\k.1=m.tr/\BytesAt c.D k.2.1 m.suf:=fun k hk=>by
  obtain⟨m,hm,e1,e2,_⟩:=hrel.mem k (hom k hk)
  obtain⟨l,hl,x,hx,hmx⟩:=gath_mem hm
  exact⟨m,(hg l hl x hx).2 m hmx,e1,e2⟩
 refine call198 (cmp2:=.mk (.func 45) #[] #[]) (spec198 (Ks:=Ks) (kn:=kn) (cs0:=cs) (bf:=bf) (sn:=sn) (D:=c.D) (sb:=sbD c.D) (ks:=out) (kx:=⟨K'.a,K'.n,K'.c⟩) (e:=K'.a.getD c.b) (Sa:=⟨s.start.a,s.start.n,s.start.c⟩) (Ea:=⟨s.end_.a,s.end_.n,s.end_.c⟩) ⟨fun hp=>hka (by rw[hK,<-hol];exact hp),hK.trans hol.symm⟩ hnc (fun k hk=>?_) om (fun k hk=>?_) heq h7.near fun l Ks' g sets w hl hsets hcap hgs hg3 h=>?_)
 ·obtain⟨m,⟨g1,g2,g3⟩,e,_⟩:=hoc k hk
  exact⟨⟨by omega,by omega⟩,by rw[e];exact g3⟩
 ·obtain⟨m,_,_,e⟩:=hoc k hk
  rw[sbD_eq e];exact e
 ·refine⟨IsI_enc _,?_⟩
  rw[isNilI_enc]
  refine ifn (fun hh=>by cases hh) (fun _=>⟨_,rfl,?_⟩)
  have h8:=Sat.join (xs:=[.slice s.start.a s.start.n s.start.c,.slice s.end_.a s.end_.n s.end_.c,.slice K'.a sets.length K'.c,.int .i8 1]) (ys:=[.nilIface,.int .i8 s.dir]) ((h.mv 8).mv 6)
  have h9:=Sat.join (xs:=[.pointer (some c.b),.slice s.start.a s.start.n s.start.c,.slice s.end_.a s.end_.n s.end_.c,.iface 214 (.pointer (some ui))]) (ys:=_::_::_::_::_) (h8.mv 8)
  have hKn:K'.n=out.length:=hK.trans hol.symm
  have h10:=bufShut (k:=3) (s:=K') (p:=c.b) (m:=sets.length) (f:=g) (fun j hj=>hg3 j om) om hnone (by rw[hKn];exact(h9.mv 8).mv 7)
  have hcells:flat g sets.length=sets.flatMap kcells:=by
   have: ∀n,n<=sets.length->flat g n=(sets.take n).flatMap kcells:=by
    intro n
    induction n with
    |zero=>intro _;rfl
    |succ n ih=>intro hn;rw[flat,ih om,hgs n om,take_succ' om,List.flatMap_append];simp
   have e:=this _ (Nat.le_refl _)
   rwa[List.take_length]at e
  rw[hcells]at h10
  have h11:=((((((((((((((h10.mv 6).mv 6).mv 6).mv 6).mv 6).mv 13).mv 6).mv 13).mv 13).mv 9).mv 10).mv 13).mv 13).mv 13)
  refine k fd sets K' Ks' Ks'.n ((ded (sbD c.D) none l++(collect sn out).2.toList).flatMap kcells) w.drew hfd ⟨acc,out,l,hrel,hout,hl,hsets⟩ hnc om ?_
  have h12:=h11.near (w':=w.drew)
  unfold MSL hp MSR UIL
  rw[htv]
  exact h12
end Go.Proofs.YtpkoddfamelnhaaGreatDoor
namespace Go.Tr
theorem RdB.rdS {w}{a:Option Addr}{n:Nat}{s:ByteArray}(h:RdB w a n s):RdS w a (n*1) (bytesOf s):=by
 cases a with
 |none=>have h:s= .empty:=h;subst h;rfl
 |some a=>exact⟨by rw[bytesOf_length,h.1,Nat.mul_one],h.2⟩
theorem ifef {a b:Int}{A B:Prop}(x:a≠b->A)(y:a=b->B):if(a==b)=false then A else B:=by
 by_cases h:a=b
 ·rw[if_neg (by simpa using h)];exact y h
 ·rw[if_pos (by simpa using h)];exact x h
theorem ifnf {b:Bool}{A B:Prop}(x:b=true->A)(y:b=false->B):if(!b)=false then A else B:=by
 cases b
 ·exact y rfl
 ·exact x rfl
theorem ifbf {b:Bool}{A B:Prop}(x:b=false->A)(y:b=true->B):if b=false then A else B:=by
 cases b
 ·exact x rfl
 ·exact y rfl
theorem ifNSome {α:Type}{x:α}{A B:Prop}(a:A):if(!(some x).isNone)=true then A else B:=by rw[if_pos (by simp)];exact a
theorem ifNNone {α:Type}{A B:Prop}(b:B):if(!(none:Option α).isNone)=true then A else B:=by rw[if_neg (by simp)];exact b
theorem size_pos {s t:ByteArray}(h:bcmp s t<0):0<t.size:=by
 rw[bcmp_eq]at h
 rcases Nat.eq_zero_or_pos t.size with e|e
 ·have e1:t.data.toList=[]:=List.eq_nil_of_length_eq_zero (by rw[Array.length_toList];exact e)
  rw[e1]at h
  cases hs:s.data.toList with
  |nil=>rw[hs]at h;simp[lcmp]at h
  |cons a l=>rw[hs]at h;simp[lcmp]at h
 ·exact e
theorem bytes_one (s:ByteArray): ∀v∈bytesOf s,v.oneCell'=true:=by
 intro v hv
 simp only[bytesOf,List.mem_map]at hv
 obtain⟨b,_,rfl⟩:=hv
 rfl
theorem bcmp_ne {s t:ByteArray}(h:bcmp s t<=0)(k:bcmp t s≠0):bcmp s t<0:=by have:=bcmp_anti s t;omega
end Go.Tr
namespace Go.Proofs.YtpkoddfamelnhaaGreatDoor
open Go Go.Tr
set_option maxRecDepth 100000
theorem mval_isB {c:MC}{pos:Nat->Int}{l:Nat}(h:mval c pos l):IsB c (mkey c pos l):=⟨l,h.1,(pos l).toNat,by have:=h.2;omega,rfl⟩
theorem rootMin {c:MC}{pos:Nat->Int}{N:Nat}{f:Nat->Nat}(lo:LevsOK c)(ok:c.Ok)(hh:HeapOK (mX c pos) false N f)(hp: ∀l,l<c.k->0<=pos l):
  ∀l,l<c.k-> ∀p:Nat,pos l<=p->p<2*(c.S l).n->0<N/\bcmp (mkey c pos (f 0)) (bkey (c.S l).spans p)<=0:=by
 intro l hl p hp1 hp2
 have h0:=hp l hl
 have hv:mval c pos l:=⟨hl,h0,by omega⟩
 obtain⟨hN,h1⟩:=hh.root (swX _ _) (show(mX c pos).ok l from hv)
 unfold hlt at h1
 simp only[Bool.false_eq_true,if_false,decide_eq_false_iff_not]at h1
 refine⟨hN,bcmp_trans (not_lt_b.1 h1) (bkey_mono (lo l hl) om ?_)⟩
 rw[(ok.S l hl).len];exact hp2
theorem rootMax {c:MC}{pos:Nat->Int}{N:Nat}{f:Nat->Nat}(lo:LevsOK c)(ok:c.Ok)(hh:HeapOK (mX c pos) true N f)(hp: ∀l,l<c.k->pos l+1<=2*(c.S l).n):
  ∀l,l<c.k-> ∀p:Nat,(p:Int)<pos l+1->0<N/\bcmp (bkey (c.S l).spans p) (mkey c pos (f 0))<=0:=by
 intro l hl p hp1
 have h0:=hp l hl
 have hv:mval c pos l:=⟨hl,by omega,by omega⟩
 obtain⟨hN,h1⟩:=hh.root (swX _ _) (show(mX c pos).ok l from hv)
 unfold hlt at h1
 simp only[if_true,gt_iff_lt,decide_eq_false_iff_not,Int.not_lt]at h1
 refine⟨hN,bcmp_trans (bkey_mono (lo l hl) (q:=(pos l).toNat) om ?_) h1⟩
 rw[(ok.S l hl).len];omega
theorem Cut.step {c:MC}{pos:Nat->Int}{r:ByteArray}{l:Nat}(h:Cut c pos r r)(hv:mval c pos l)(hr:bcmp (mkey c pos l) r<=0):Cut c (upd pos l (pos l+1)) r r:=by
 intro i hi
 obtain⟨g0,g1,g2,g3⟩:=h i hi
 by_cases e:i=l
 ·subst e
  rw[upd_same]
  have hv2:=hv.2
  refine⟨by omega,by omega,fun p hp=>?_,fun p hp hq=>g3 p om hq⟩
  by_cases ep:(p:Int)<pos i
  ·exact g2 p ep
  ·have:p=(pos i).toNat:=by omega
   rw[this];exact hr
 ·rw[upd_other e];exact⟨g0,g1,g2,g3⟩
theorem Cut.stepB {c:MC}{pos:Nat->Int}{r:ByteArray}{l:Nat}(h:Cut c (fun l=>pos l+1) r r)(hv:mval c pos l)(hr:bcmp r (mkey c pos l)<=0):Cut c (fun i=>upd pos l (pos l-1) i+1) r r:=by
 intro i hi
 obtain⟨g0,g1,g2,g3⟩:=h i hi
 dsimp only at g0 g1 g2 g3|-
 by_cases e:i=l
 ·subst e
  rw[upd_same]
  have hv2:=hv.2
  refine⟨by omega,by omega,fun p hp=>g2 p om,fun p hp hq=>?_⟩
  by_cases ep:pos i+1<=(p:Int)
  ·exact g3 p ep hq
  ·have:p=(pos i).toNat:=by omega
   rw[this];exact hr
 ·rw[upd_other e];exact⟨g0,g1,g2,g3⟩
structure UV where
 fnv:Value
 Ks:Sl
 kn:Nat
 cs:List Value
structure UC where
 ui:Addr
 bf:Addr
 cq:Addr
 sn:Int
def MSU (c:MC)(s:MSt)(v:UC)(u:UV)(R:List Chunk):List Chunk:=MSL c s (UIL v.ui v.bf v.cq v.sn u.fnv u.Ks u.kn u.cs R)
structure CtxOK (c:MC)(v:UC):Prop where
 ok:c.Ok
 lo:LevsOK c
 kg:KeysGood c
 eq:DAt c.D (v.cq.add 1) eqV
 tv:c.tv= .iface 214 (.pointer (some v.ui))
 kz: ∀l,l<c.k-> ∀x∈(c.S l).spans,∀m∈x.keys,m.suf.size<2^40/\m.val.size<2^40
 nd: ∀y,((keysAt c y).map (·.tr)).Nodup
def KN (s:MSt):Prop:=s.keys.n<=s.keys.c/\s.keys.n<2^40
def SAt (c:MC)(s:MSt)(x:Sl)(t:ByteArray):Prop:=x.a.isSome=true/\(BytesAt c.D x t\/(x=s.buf/\t=s.bb))
theorem SAt.rd {c:MC}{s:MSt}{R w}{x:Sl}{t:ByteArray}(h:Sat w (MSL c s R))(hs:BytesAt c.D x t\/(x=s.buf/\t=s.bb)):RdB w x.a x.n t:=by
 unfold MSL hp MSR at h
 rcases hs with hs'|⟨rfl,rfl⟩
 ·exact h.rdB .k3 hs'
 ·obtain⟨g,hg,hh,_⟩:=h.t8
  unfold Buf at hg
  cases ha:s.buf.a with
  |none=>
   rw[ha]at hg
   have h1:=congrArg List.length hg.2.2.1
   rw[bytesOf_length]at h1
   show s.bb= .empty
   exact ByteArray.ext (Array.eq_empty_of_size_eq_zero h1)
  |some a=>
   rw[ha]at hg
   obtain⟨h1,sp,h2,h3⟩:=hg
   rw[bytesOf_length]at h1
   exact⟨by omega,RdL.left (ys:=sp) fun j v e=>(hh _ _ (h3.1 j v e)).1⟩
structure Frag (c:MC)(sn:Int)(s:MSt)(a b:ByteArray)(sets:List KC):Prop where
 st:SAt c s s.start a
 en:SAt c s s.end_ b
 s0:s.s0=s.start
 s1:s.s1=s.end_
 s2:s.s2=⟨s.keys.a,sets.length,s.keys.c⟩
 s3:s.s3=1
 kn:s.kn=sets.length
 kc:s.kc=sets.flatMap kcells
 lt:bcmp a b<0
 ba:IsB c a
 bb:IsB c b
 cv: ∀y,bcmp a y<=0->bcmp y b<0->covd c y/\keysAt c y=keysAt c a
 vis:Vis c.D sn (keysAt c a) sets
structure Fwd (c:MC)(s:MSt):Prop where
 dir:s.dir=1
 rev:s.rev=false
 N:s.N<=c.k
 heap:HeapOK (mX c s.pos) false s.N s.f
 kn:KN s
structure Bwd (c:MC)(s:MSt):Prop where
 dir:s.dir= -1
 rev:s.rev=true
 N:s.N<=c.k
 heap:HeapOK (mX c s.pos) true s.N s.f
 kn:KN s
theorem spec212 {c:MC}{s:MSt}{v:UC}{u:UV}{x:ByteArray}{R w}{K:Option Addr->WP}(cx:CtxOK c v)(hf:Fwd c s)(hc:Cut c s.pos x x)(gap:GapF c s.pos x)(h:Sat w (MSU c s v u R))
  (k0: ∀s' u' w',s'.N=0->(∀y,bcmp x y<=0-> ¬covd c y)->Sat w' (MSU c s' v u' R)->K none w')
  (k1: ∀s' a b sets u' w',Fwd c s'->Cut c s'.pos a b->Frag c v.sn s' a b sets->bcmp x a<=0->(∀y,bcmp x y<=0->bcmp y a<0-> ¬covd c y)->Sat w' (MSU c s' v u' R)->K (some (c.m.add 4)) w'):F212 (some c.m) K w:=by
 unfold F212
 have ok:=cx.ok
 have lo:=cx.lo
 have k10:=ok.k10
 refine⟨fun _ w=> ∃s' u',KN s'/\s'.N=0/\(∀y,bcmp x y<=0-> ¬covd c y)/\Sat w (MSU c s' v u' R),?_,?_⟩
 ·rintro _ w ⟨s',u',hk,hz,hn,h⟩
  exact call208 (spec208 hk.1 hk.2 h fun w h=>k0 {s' with keys:=⟨s'.keys.a,0,s'.keys.c⟩,kn:=0,kc:=[]} u' _ hz hn h)
 refine⟨fun m (_:Unit) w=> ∃(s':MSt) (u':UV) (x':ByteArray),m=ahead c s'.pos c.k/\Fwd c s'/\Cut c s'.pos x' x'/\GapF c s'.pos x'/\bcmp x x'<=0/\(∀y,bcmp x y<=0->bcmp y x'<0-> ¬covd c y)/\Sat w (MSU c s' v u' R),
  ⟨_,s,u,x,rfl,hf,hc,gap,le_refl_b x,fun y h1 h2=>absurd h1 (not_le_b.2 h2),h⟩,?_⟩
 clear h hf hc gap s u
 rintro m _ w ⟨s,u,x',rfl,hf,hc,gap,hxx,hnc,h⟩
 have hpos: ∀l,l<c.k->0<=s.pos l:=fun l hl=>(hc l hl).1
 have hrm:=rootMin lo ok hf.heap hpos
 refine⟨fun _ w=>0<s.N/\Sat w (MSU c s v u R),?_,?_⟩
 rotate_left
 ·have h':=h
  unfold MSU MSL hp MSR at h
  refine⟨_,rfl,Ld1 h ⟨_,rfl,call209 (spec209 (X:=mX c s.pos) h' ?_)⟩⟩
  refine ifd (fun hpos=>?_) (fun hz=>?_)
  ·refine⟨_,rfl,Ld1 h ⟨IsI_enc _,?_⟩⟩
   rw[isNilI_enc]
   exact ifb (fun _=>decI_nil ⟨by omega,h'⟩) (fun hh=>by cases hh)
  ·refine⟨s,u,hf.kn,by omega,fun y hy=>?_,h'⟩
   by_cases e:bcmp y x'<0
   ·exact hnc y hy e
   ·exact gap y (not_lt_b.1 e) fun l hl p hp hq=>absurd (hrm l hl p hp hq).1 om
 rintro _ w ⟨hN,h⟩
 have hN10:=hf.N
 have hv:=hf.heap.ok 0 hN
 have h':=h
 obtain⟨r1,r2,rk,xk,hxk,rx⟩:=rootRead h' om hN hv
 unfold MSU MSL hp MSR at h
 refine⟨_,rfl,Ld1 h ⟨_,rfl,Ld1 h ⟨⟨by omega,by dsimp only;omega⟩,_,rfl,LdC r1 ⟨_,rfl,LdC rx ⟨_,rfl,St1 h rfl fun w h=>?_⟩⟩⟩⟩⟩
 clear r1 r2 rk rx h'
 have hxr:bcmp x' (mkey c s.pos (s.f 0))<=0:=by
  obtain⟨g0,g1,g2,g3⟩:=hc _ hv.1
  exact g3 _ (by have:=hv.2;omega) (by have:=hv.2;omega)
 have hcr:Cut c s.pos (mkey c s.pos (s.f 0)) (mkey c s.pos (s.f 0)):=fun l hl=>by
  obtain⟨g0,g1,g2,g3⟩:=hc l hl
  exact⟨g0,g1,fun p hp=>bcmp_trans (g2 p hp) hxr,fun p hp hq=>(hrm l hl p hp hq).2⟩
 have hbr:IsB c (mkey c s.pos (s.f 0)):=mval_isB hv
 have hgr: ∀y,bcmp x y<=0->bcmp y (mkey c s.pos (s.f 0))<0-> ¬covd c y:=fun y h1 h2=>by
  by_cases e:bcmp y x'<0
  ·exact hnc y h1 e
  ·exact gap y (not_lt_b.1 e) fun l hl p hp hq=>bcmp_lt_le h2 (hrm l hl p hp hq).2
 have hmk:lkind (c.S (s.f 0)).n (s.pos (s.f 0))=2->0<(mkey c s.pos (s.f 0)).size:=fun hk=>by
  unfold lkind at hk
  rw[if_pos hv.2]at hk
  split at hk
  ·omega
  ·have hj:(s.pos (s.f 0)/2).toNat<(c.S (s.f 0)).spans.length:=by rw[(ok.S _ hv.1).len];have:=hv.2;omega
   have hs:=List.getElem?_eq_getElem hj
   have e:mkey c s.pos (s.f 0)=((c.S (s.f 0)).spans[(s.pos (s.f 0)/2).toNat]).hi:=by
    unfold mkey
    rw[show(s.pos (s.f 0)).toNat=2*(s.pos (s.f 0)/2).toNat+1 by have:=hv.2;omega]
    exact bkey_hi hs
   rw[e]
   exact size_pos ((lo _ hv.1).ne _ _ hs)
 have hmz:(mkey c s.pos (s.f 0)).size<2^40:=bkey_sz (lo _ hv.1) _
 have hxr':=bcmp_trans hxx hxr
 have had:=ahead_next (q:=s.pos) hv.2.2 hv.1
 have hst: ∀{w},Sat w (MSU c {s with start:=xk} v u R)->lkind (c.S (s.f 0)).n (s.pos (s.f 0))=lkind (c.S (s.f 0)).n (s.pos (s.f 0)):=fun _=>rfl
 clear hst
 generalize hr:mkey c s.pos (s.f 0)=r at*
 refine⟨fun _ w=> ∃st bf' bb',st.a.isSome=true/\(BytesAt c.D st r\/(st=bf'/\r=bb'))/\Sat w (MSU c {s with start:=st,buf:=bf',bb:=bb'} v u R),?_,?_⟩
 rotate_left
 ·have h':Sat w (MSL c {s with start:=xk} (UIL v.ui v.bf v.cq v.sn u.fnv u.Ks u.kn u.cs R)):=h
  obtain⟨r1,_,rk,_⟩:=rootRead h' (by dsimp only;omega) hN hv
  refine⟨_,rfl,Ld1 h ⟨_,rfl,Ld1 h ⟨⟨by omega,by dsimp only;omega⟩,_,rfl,LdC r1 ⟨_,rfl,LdC rk ?_⟩⟩⟩⟩
  refine ife (fun he=>?_) (fun hne=>⟨xk,s.buf,s.bb,hxk.2,.inl hxk.1,h'⟩)
  refine⟨_,rfl,Ld1 h ⟨_,rfl,Ld1 h ⟨_,rfl,Ld1 h ⟨⟨by omega,by dsimp only;omega⟩,_,rfl,Ld1 h ?_⟩⟩⟩⟩
  have hrd:=(h.near (w':=w.drew)).rdB .k3 hxk.1
  have hn:r.size=xk.n:=by
   obtain⟨a,n,cc⟩:=xk
   cases a with
   |none=>have:=hxk.2;cases this
   |some a=>exact hrd.1
  have h2:=bufTrunc h.t8
  refine AppP_run (s:=si87) (old:=[]) (d:=⟨s.buf.a,0,s.buf.c⟩) (x:=⟨xk.a,xk.n,xk.c⟩) (new:=bytesOf r) h2 hrd.rdS (by rw[bytesOf_length,hn];exact(Nat.mul_one _).symm) (bytes_one r) (by show(2*(0+xk.n)+1024)*1<=_;omega) (by dsimp only;omega) fun bf' w er ea h=>?_
  dsimp only at er ea
  refine⟨LdAt1 h,_,rfl,St1 h rfl fun w h=>⟨_,rfl,Ld1 h ⟨_,rfl,Ld1 h ⟨_,rfl,St1 h rfl fun w h=>⟨bf',bf',r,ea (by have:=hmk he;omega),.inr ⟨rfl,rfl⟩,?_⟩⟩⟩⟩⟩
  exact(((((((((h.mv 0).mv 8).mv 8).mv 8).mv 8).mv 8).mv 8).mv 8).mv 8)
 clear h
 rintro _ w ⟨st,bf',bb',hss,hst,h⟩
 refine call220 (spec220 (s:={s with start:=st,buf:=bf',bb:=bb'}) ok (by dsimp only;omega) hN (show HeapOK (mX c s.pos) s.rev s.N s.f from by rw[hf.rev];exact hf.heap) h fun N f w hN1 hh h=>?_)
 dsimp only at hN1 hh h
 rw[hf.rev]at hh
 refine⟨fun _ w=> ∃N f pos,N<=c.k/\HeapOK (mX c pos) false N f/\Cut c pos r r/\ahead c pos c.k<ahead c s.pos c.k/\(0<N->bcmp (mkey c pos (f 0)) r≠0)/\Sat w (MSU c {s with start:=st,buf:=bf',bb:=bb',N:=N,f:=f,pos:=pos} v u R),?_,?_⟩
 rotate_left
 ·refine⟨fun m (_:Unit) w=> ∃N f pos,m=ahead c pos c.k/\N<=c.k/\HeapOK (mX c pos) false N f/\Cut c pos r r/\ahead c pos c.k<ahead c s.pos c.k/\Sat w (MSU c {s with start:=st,buf:=bf',bb:=bb',N:=N,f:=f,pos:=pos} v u R),
   ⟨_,N,f,_,rfl,by have:=hf.N;omega,hh,hcr.step hv (by rw[hr];exact le_refl_b r),by omega,h⟩,?_⟩
  clear h hh hN1
  rintro m _ w ⟨N,f,pos,rfl,hN1,hh,hc1,ha,h⟩
  have h':=h
  unfold MSU MSL hp MSR at h
  refine⟨_,rfl,Ld1 h ⟨_,rfl,Ld1 h ?_⟩⟩
  refine ifd (fun hp=>?_) (fun hz=>⟨N,f,pos,hN1,hh,hc1,ha,fun h0=>by dsimp only at hz;omega,h'.near⟩)
  refine⟨_,rfl,Ld1 h ⟨IsI_enc _,?_⟩⟩
  rw[isNilI_enc]
  refine ifb (fun _=>?_) (fun hh=>by cases hh)
  have hN0:0<N:=by dsimp only at hp;omega
  have hv1:=hh.ok 0 hN0
  refine⟨_,rfl,Ld1 h (call221 (spec221 (h'.near (w':=w.drew)) (by dsimp only;omega) hN0 hv1 fun x2 hx2=>⟨LdAt1 h,?_⟩))⟩
  have hrx:=(h.near (w':=w.drew)).rdB .k3 hx2
  have hrs:=SAt.rd (x:=st) (t:=r) (h'.near (w':=w.drew)) hst
  refine call217 (spec217 (h'.near (w':=w.drew)) hrx hrs ?_)
  refine ife (fun he=>?_) (fun hne=>⟨N,f,pos,hN1,hh,hc1,ha,fun _=>hne,h'.near⟩)
  have had1:=ahead_next (q:=pos) hv1.2.2 hv1.1
  refine call220 (spec220 (s:={s with start:=st,buf:=bf',bb:=bb',N:=N,f:=f,pos:=pos}) ok (by dsimp only;omega) hN0 (show HeapOK (mX c pos) s.rev N f from by rw[hf.rev];exact hh) (h'.near (w':=w.drew)) fun N2 f2 w hN2 hh2 h=>?_)
  dsimp only at hN2 hh2 h
  rw[hf.rev]at hh2
  exact⟨_,by omega,N2,f2,_,rfl,by omega,hh2,hc1.step hv1 (Int.le_of_eq he),by omega,h⟩
 clear h hh hN1 N f
 rintro _ w ⟨N,f,pos,hN1,hh,hc1,ha,hne,h⟩
 have hpos1: ∀l,l<c.k->0<=pos l:=fun l hl=>(hc1 l hl).1
 have hrm1:=rootMin lo ok hh hpos1
 refine⟨fun _ w=>0<N/\Sat w (MSU c {s with start:=st,buf:=bf',bb:=bb',N:=N,f:=f,pos:=pos} v u R),?_,?_⟩
 rotate_left
 ·have h':=h
  unfold MSU MSL hp MSR at h
  refine⟨_,rfl,Ld1 h ⟨_,rfl,Ld1 h ?_⟩⟩
  refine ifef (fun hp=>?_) (fun hz=>?_)
  ·refine⟨_,rfl,Ld1 h ⟨IsI_enc _,?_⟩⟩
   rw[isNilI_enc]
   exact ifn (fun hh=>by cases hh) (fun _=>decI_nil ⟨by dsimp only at hp;omega,h'⟩)
  ·dsimp only at hz
   refine⟨{s with start:=st,buf:=bf',bb:=bb',N:=N,f:=f,pos:=pos},u,hf.kn,by dsimp only;omega,fun y hy=>?_,h'⟩
   by_cases e:bcmp y r<0
   ·exact hgr y hy e
   ·rintro⟨l,hl,hcv⟩
    obtain⟨g0,g1,g2,g3⟩:=hc1 l hl
    have hn:=(ok.S l hl).len
    have e2:pos l=2*(c.S l).n:=by
     by_cases e3:pos l<2*(c.S l).n
     ·have:=(hrm1 l hl (pos l).toNat om om).1;omega
     ·omega
    refine hcv ?_
    rw[straddle (lo l hl) g0 om (fun p hp=>bcmp_trans (g2 p hp) (not_lt_b.1 e)) (fun p hp hq=>by omega),if_neg om]
 clear h
 rintro _ w ⟨hN0,h⟩
 have hv1:=hh.ok 0 hN0
 have h':=h
 obtain⟨r1,_,_,xe,hxe,rx⟩:=rootRead h' (by dsimp only;omega) hN0 hv1
 unfold MSU MSL hp MSR at h
 refine⟨_,rfl,Ld1 h ⟨_,rfl,Ld1 h ⟨⟨by omega,by dsimp only;omega⟩,_,rfl,LdC r1 ⟨_,rfl,LdC rx ⟨_,rfl,St1 h rfl fun w h=>?_⟩⟩⟩⟩⟩
 clear r1 rx h'
 dsimp only at hxe
 have hbb:IsB c (mkey c pos (f 0)):=mval_isB hv1
 have hrb:bcmp r (mkey c pos (f 0))<0:=by
  obtain⟨g0,g1,g2,g3⟩:=hc1 _ hv1.1
  exact bcmp_ne (g3 _ (by have:=hv1.2;omega) (by have:=hv1.2;omega)) (hne hN0)
 have hc2:Cut c pos r (mkey c pos (f 0)):=fun l hl=>by
  obtain⟨g0,g1,g2,g3⟩:=hc1 l hl
  exact⟨g0,g1,g2,fun p hp hq=>(hrm1 l hl p hp hq).2⟩
 generalize mkey c pos (f 0)=b at*
 refine call218 (spec218 (s:={s with start:=st,buf:=bf',bb:=bb',N:=N,f:=f,pos:=pos,end_:=xe}) ok (.inl rfl) cx.kg cx.eq cx.tv h fun fd sets K' Ks' kn' cs' w hfd hvis hk1 hk2 h=>?_)
 dsimp only at hfd hvis
 have hgr0:=gath_fwd lo ok hc2 (le_refl_b r) hrb
 refine ifb (fun e=>?_) (fun e=>?_)
 ·refine ifNSome ?_
  dsimp only at e
  refine k1 {s with start:=st,end_:=xe,s0:=st,s1:=xe,s2:=⟨K'.a,sets.length,K'.c⟩,s3:=1,keys:=K',kn:=sets.length,kc:=sets.flatMap kcells,buf:=bf',bb:=bb',N:=N,f:=f,pos:=pos} r b sets ⟨cmpV,Ks',kn',cs'⟩ w ⟨hf.dir,hf.rev,hN1,hh,hk1,hk2⟩ hc2 ⟨⟨hss,hst⟩,⟨hxe.2,.inl hxe.1⟩,rfl,rfl,rfl,rfl,rfl,rfl,hrb,hbr,hbb,fun y h1 h2=>?_,by rw[<-hgr0.1];exact hvis⟩ hxr' hgr h
  have hgy:=gath_fwd lo ok hc2 h1 h2
  exact⟨hgy.2.1 (hfd.1 e),hgy.1.symm.trans hgr0.1⟩
 ·dsimp only at e
  refine⟨_,ha,{s with start:=st,end_:=xe,s0:=st,s1:=xe,s2:=⟨K'.a,sets.length,K'.c⟩,s3:=1,keys:=K',kn:=sets.length,kc:=sets.flatMap kcells,buf:=bf',bb:=bb',N:=N,f:=f,pos:=pos},⟨cmpV,Ks',kn',cs'⟩,b,rfl,⟨hf.dir,hf.rev,hN1,hh,hk1,hk2⟩,hc2.mono (lt_le_b hrb) (le_refl_b b),hc2.gap hrb hbb,bcmp_trans hxr' (lt_le_b hrb),fun y h1 h2=>?_,h⟩
  by_cases e1:bcmp y r<0
  ·exact hgr y h1 e1
  ·intro hcv
   have hgy:=gath_fwd lo ok hc2 (not_lt_b.1 e1) h2
   have:=hfd.2 (hgy.2.2 hcv)
   rw[e]at this;cases this
theorem spec214 {c:MC}{s:MSt}{v:UC}{u:UV}{x:ByteArray}{R w}{K:Option Addr->WP}(cx:CtxOK c v)(hf:Bwd c s)(hc:Cut c (fun l=>s.pos l+1) x x)(gap:GapB c (fun l=>s.pos l+1) x)(h:Sat w (MSU c s v u R))
  (k0: ∀s' u' w',s'.N=0->s'.dir= -1->KN s'->(∀l,l<c.k->s'.pos l= -1)->(∀y,bcmp y x<0-> ¬covd c y)->Sat w' (MSU c s' v u' R)->K none w')
  (k1: ∀s' a b sets u' w',Bwd c s'->Cut c (fun l=>s'.pos l+1) a b->Frag c v.sn s' a b sets->bcmp b x<=0->(∀y,bcmp b y<=0->bcmp y x<0-> ¬covd c y)->Sat w' (MSU c s' v u' R)->K (some (c.m.add 4)) w'):F214 (some c.m) K w:=by
 unfold F214
 have ok:=cx.ok
 have lo:=cx.lo
 have k10:=ok.k10
 refine⟨fun _ w=> ∃s' u',s'.N=0/\s'.dir= -1/\KN s'/\(∀l,l<c.k->s'.pos l= -1)/\(∀y,bcmp y x<0-> ¬covd c y)/\Sat w (MSU c s' v u' R),?_,?_⟩
 ·rintro _ w ⟨s',u',hz,hd,hk,hp,hn,h⟩
  exact call208 (spec208 hk.1 hk.2 h fun w h=>k0 {s' with keys:=⟨s'.keys.a,0,s'.keys.c⟩,kn:=0,kc:=[]} u' _ hz hd ⟨Nat.zero_le _,by dsimp only;omega⟩ hp hn h)
 refine⟨fun m (_:Unit) w=> ∃(s':MSt) (u':UV) (x':ByteArray),m=behind s'.pos c.k/\Bwd c s'/\Cut c (fun l=>s'.pos l+1) x' x'/\GapB c (fun l=>s'.pos l+1) x'/\bcmp x' x<=0/\(∀y,bcmp x' y<=0->bcmp y x<0-> ¬covd c y)/\Sat w (MSU c s' v u' R),
  ⟨_,s,u,x,rfl,hf,hc,gap,le_refl_b x,fun y h1 h2=>absurd h1 (not_le_b.2 h2),h⟩,?_⟩
 clear h hf hc gap s u
 rintro m _ w ⟨s,u,x',rfl,hf,hc,gap,hxx,hnc,h⟩
 have hpos: ∀l,l<c.k->s.pos l+1<=2*(c.S l).n:=fun l hl=>(hc l hl).2.1
 have hrm:=rootMax lo ok hf.heap hpos
 refine⟨fun _ w=>0<s.N/\Sat w (MSU c s v u R),?_,?_⟩
 rotate_left
 ·have h':=h
  unfold MSU MSL hp MSR at h
  refine⟨_,rfl,Ld1 h ⟨_,rfl,call209 (spec209 (X:=mX c s.pos) h' ?_)⟩⟩
  refine ifd (fun hpos=>?_) (fun hz=>?_)
  ·refine⟨_,rfl,Ld1 h ⟨IsI_enc _,?_⟩⟩
   rw[isNilI_enc]
   exact ifb (fun _=>decI_nil ⟨by omega,h'⟩) (fun hh=>by cases hh)
  ·refine⟨s,u,by omega,hf.dir,hf.kn,fun l hl=>?_,fun y hy=>?_,h'⟩
   ·have:=(hc l hl).1
    by_cases e:0<=s.pos l
    ·have:=(hrm l hl (s.pos l).toNat om).1;omega
    ·dsimp only at this;omega
   by_cases e:bcmp x' y<=0
   ·exact hnc y e hy
   ·exact gap y (not_le_b.1 e) fun l hl p hp=>absurd (hrm l hl p hp).1 om
 rintro _ w ⟨hN,h⟩
 have hN10:=hf.N
 have hv:=hf.heap.ok 0 hN
 have h':=h
 obtain⟨r1,r2,rk,xk,hxk,rx⟩:=rootRead h' om hN hv
 unfold MSU MSL hp MSR at h
 refine⟨_,rfl,Ld1 h ⟨_,rfl,Ld1 h ⟨⟨by omega,by dsimp only;omega⟩,_,rfl,LdC r1 ⟨_,rfl,LdC rx ⟨_,rfl,St1 h rfl fun w h=>?_⟩⟩⟩⟩⟩
 clear r1 r2 rk rx h'
 have hxr:bcmp (mkey c s.pos (s.f 0)) x'<=0:=by
  obtain⟨g0,g1,g2,g3⟩:=hc _ hv.1
  exact g2 _ (by have:=hv.2;dsimp only;omega)
 have hcr:Cut c (fun l=>s.pos l+1) (mkey c s.pos (s.f 0)) (mkey c s.pos (s.f 0)):=fun l hl=>by
  obtain⟨g0,g1,g2,g3⟩:=hc l hl
  exact⟨g0,g1,fun p hp=>(hrm l hl p hp).2,fun p hp hq=>bcmp_trans hxr (g3 p hp hq)⟩
 have hbr:IsB c (mkey c s.pos (s.f 0)):=mval_isB hv
 have hgr: ∀y,bcmp (mkey c s.pos (s.f 0)) y<=0->bcmp y x<0-> ¬covd c y:=fun y h1 h2=>by
  by_cases e:bcmp x' y<=0
  ·exact hnc y e h2
  ·exact gap y (not_le_b.1 e) fun l hl p hp=>bcmp_trans (hrm l hl p hp).2 h1
 have hmz:(mkey c s.pos (s.f 0)).size<2^40:=bkey_sz (lo _ hv.1) _
 have hxr':=bcmp_trans hxr hxx
 have had:=behind_prev (q:=s.pos) hv.2.1 hv.1
 generalize hr:mkey c s.pos (s.f 0)=r at*
 refine⟨fun _ w=> ∃en bf' bb',(0<r.size->en.a.isSome=true)/\(BytesAt c.D en r\/(en=bf'/\r=bb'))/\Sat w (MSU c {s with end_:=en,buf:=bf',bb:=bb'} v u R),?_,?_⟩
 rotate_left
 ·have h':Sat w (MSL c {s with end_:=xk} (UIL v.ui v.bf v.cq v.sn u.fnv u.Ks u.kn u.cs R)):=h
  obtain⟨r1,_,rk,_⟩:=rootRead h' (by dsimp only;omega) hN hv
  refine⟨_,rfl,Ld1 h ⟨_,rfl,Ld1 h ⟨⟨by omega,by dsimp only;omega⟩,_,rfl,LdC r1 ⟨_,rfl,LdC rk ?_⟩⟩⟩⟩
  refine ife (fun he=>?_) (fun hne=>⟨xk,s.buf,s.bb,fun _=>hxk.2,.inl hxk.1,h'⟩)
  refine⟨_,rfl,Ld1 h ⟨_,rfl,Ld1 h ⟨_,rfl,Ld1 h ⟨⟨by omega,by dsimp only;omega⟩,_,rfl,Ld1 h ?_⟩⟩⟩⟩
  have hrd:=(h.near (w':=w.drew)).rdB .k3 hxk.1
  have hn:r.size=xk.n:=by
   obtain⟨a,n,cc⟩:=xk
   cases a with
   |none=>have:=hxk.2;cases this
   |some a=>exact hrd.1
  have h2:=bufTrunc h.t8
  refine AppP_run (s:=si87) (old:=[]) (d:=⟨s.buf.a,0,s.buf.c⟩) (x:=⟨xk.a,xk.n,xk.c⟩) (new:=bytesOf r) h2 hrd.rdS (by rw[bytesOf_length,hn];exact(Nat.mul_one _).symm) (bytes_one r) (by show(2*(0+xk.n)+1024)*1<=_;omega) (by dsimp only;omega) fun bf' w er ea h=>?_
  dsimp only at er ea
  refine⟨LdAt1 h,_,rfl,St1 h rfl fun w h=>⟨_,rfl,Ld1 h ⟨_,rfl,Ld1 h ⟨_,rfl,St1 h rfl fun w h=>⟨bf',bf',r,fun h0=>ea om,.inr ⟨rfl,rfl⟩,?_⟩⟩⟩⟩⟩
  exact(((((((((h.mv 0).mv 8).mv 8).mv 8).mv 8).mv 8).mv 8).mv 8).mv 8)
 clear h
 rintro _ w ⟨en,bf',bb',hss,hst,h⟩
 refine call222 (spec222 (s:={s with end_:=en,buf:=bf',bb:=bb'}) ok (by dsimp only;omega) hN (show HeapOK (mX c s.pos) s.rev s.N s.f from by rw[hf.rev];exact hf.heap) h fun N f w hN1 hh h=>?_)
 dsimp only at hN1 hh h
 rw[hf.rev]at hh
 refine⟨fun _ w=> ∃N f pos,N<=c.k/\HeapOK (mX c pos) true N f/\Cut c (fun l=>pos l+1) r r/\behind pos c.k<behind s.pos c.k/\(0<N->bcmp (mkey c pos (f 0)) r≠0)/\Sat w (MSU c {s with end_:=en,buf:=bf',bb:=bb',N:=N,f:=f,pos:=pos} v u R),?_,?_⟩
 rotate_left
 ·refine⟨fun m (_:Unit) w=> ∃N f pos,m=behind pos c.k/\N<=c.k/\HeapOK (mX c pos) true N f/\Cut c (fun l=>pos l+1) r r/\behind pos c.k<behind s.pos c.k/\Sat w (MSU c {s with end_:=en,buf:=bf',bb:=bb',N:=N,f:=f,pos:=pos} v u R),
   ⟨_,N,f,_,rfl,by have:=hf.N;omega,hh,hcr.stepB hv (by rw[hr];exact le_refl_b r),by omega,h⟩,?_⟩
  clear h hh hN1
  rintro m _ w ⟨N,f,pos,rfl,hN1,hh,hc1,ha,h⟩
  have h':=h
  unfold MSU MSL hp MSR at h
  refine⟨_,rfl,Ld1 h ⟨_,rfl,Ld1 h ?_⟩⟩
  refine ifd (fun hp=>?_) (fun hz=>⟨N,f,pos,hN1,hh,hc1,ha,fun h0=>by dsimp only at hz;omega,h'.near⟩)
  refine⟨_,rfl,Ld1 h ⟨IsI_enc _,?_⟩⟩
  rw[isNilI_enc]
  refine ifb (fun _=>?_) (fun hh=>by cases hh)
  have hN0:0<N:=by dsimp only at hp;omega
  have hv1:=hh.ok 0 hN0
  refine⟨_,rfl,Ld1 h (call221 (spec221 (h'.near (w':=w.drew)) (by dsimp only;omega) hN0 hv1 fun x2 hx2=>⟨LdAt1 h,?_⟩))⟩
  have hrx:=(h.near (w':=w.drew)).rdB .k3 hx2
  have hrs:=SAt.rd (x:=en) (t:=r) (h'.near (w':=w.drew)) hst
  refine call217 (spec217 (h'.near (w':=w.drew)) hrx hrs ?_)
  refine ife (fun he=>?_) (fun hne=>⟨N,f,pos,hN1,hh,hc1,ha,fun _=>hne,h'.near⟩)
  have had1:=behind_prev (q:=pos) hv1.2.1 hv1.1
  refine call222 (spec222 (s:={s with end_:=en,buf:=bf',bb:=bb',N:=N,f:=f,pos:=pos}) ok (by dsimp only;omega) hN0 (show HeapOK (mX c pos) s.rev N f from by rw[hf.rev];exact hh) (h'.near (w':=w.drew)) fun N2 f2 w hN2 hh2 h=>?_)
  dsimp only at hN2 hh2 h
  rw[hf.rev]at hh2
  exact⟨_,by omega,N2,f2,_,rfl,by omega,hh2,hc1.stepB hv1 (by rw[bcmp_zero he];exact le_refl_b r),by omega,h⟩
 clear h hh hN1 N f
 rintro _ w ⟨N,f,pos,hN1,hh,hc1,ha,hne,h⟩
 have hpos1: ∀l,l<c.k->pos l+1<=2*(c.S l).n:=fun l hl=>(hc1 l hl).2.1
 have hrm1:=rootMax lo ok hh hpos1
 refine⟨fun _ w=>0<N/\Sat w (MSU c {s with end_:=en,buf:=bf',bb:=bb',N:=N,f:=f,pos:=pos} v u R),?_,?_⟩
 rotate_left
 ·have h':=h
  unfold MSU MSL hp MSR at h
  refine⟨_,rfl,Ld1 h ⟨_,rfl,Ld1 h ?_⟩⟩
  refine ifef (fun hp=>?_) (fun hz=>?_)
  ·refine⟨_,rfl,Ld1 h ⟨IsI_enc _,?_⟩⟩
   rw[isNilI_enc]
   exact ifn (fun hh=>by cases hh) (fun _=>decI_nil ⟨by dsimp only at hp;omega,h'⟩)
  ·dsimp only at hz
   have hm1: ∀l,l<c.k->pos l= -1:=fun l hl=>by
    have:=(hc1 l hl).1
    by_cases e3:0<=pos l
    ·have:=(hrm1 l hl (pos l).toNat om).1;omega
    ·dsimp only at this;omega
   refine⟨{s with end_:=en,buf:=bf',bb:=bb',N:=N,f:=f,pos:=pos},u,by dsimp only;omega,hf.dir,hf.kn,hm1,fun y hy=>?_,h'⟩
   by_cases e:bcmp r y<=0
   ·exact hgr y e hy
   ·rintro⟨l,hl,hcv⟩
    obtain⟨g0,g1,g2,g3⟩:=hc1 l hl
    have hn:=(ok.S l hl).len
    have e2:=hm1 l hl
    refine hcv ?_
    dsimp only at g0 g1 g2 g3
    rw[straddle (lo l hl) g0 om (fun p hp=>by omega) (fun p hp hq=>bcmp_lt_le (not_le_b.1 e) (g3 p hp om)),if_neg om]
 clear h
 rintro _ w ⟨hN0,h⟩
 have hv1:=hh.ok 0 hN0
 have h':=h
 obtain⟨r1,_,_,xe,hxe,rx⟩:=rootRead h' (by dsimp only;omega) hN0 hv1
 unfold MSU MSL hp MSR at h
 refine⟨_,rfl,Ld1 h ⟨_,rfl,Ld1 h ⟨⟨by omega,by dsimp only;omega⟩,_,rfl,LdC r1 ⟨_,rfl,LdC rx ⟨_,rfl,St1 h rfl fun w h=>?_⟩⟩⟩⟩⟩
 clear r1 rx h'
 dsimp only at hxe
 have hbb:IsB c (mkey c pos (f 0)):=mval_isB hv1
 have hrb:bcmp (mkey c pos (f 0)) r<0:=by
  obtain⟨g0,g1,g2,g3⟩:=hc1 _ hv1.1
  have h1:=g2 (pos (f 0)).toNat (by have:=hv1.2;dsimp only;omega)
  have h2:=hne hN0
  unfold mkey at h2|-
  omega
 have hc2:Cut c (fun l=>pos l+1) (mkey c pos (f 0)) r:=fun l hl=>by
  obtain⟨g0,g1,g2,g3⟩:=hc1 l hl
  exact⟨g0,g1,fun p hp=>(hrm1 l hl p hp).2,g3⟩
 generalize mkey c pos (f 0)=b at*
 refine call218 (spec218 (s:={s with end_:=en,buf:=bf',bb:=bb',N:=N,f:=f,pos:=pos,start:=xe}) ok (.inr rfl) cx.kg cx.eq cx.tv h fun fd sets K' Ks' kn' cs' w hfd hvis hk1 hk2 h=>?_)
 dsimp only at hfd hvis
 have hgr0:=gath_bwd lo ok hc2 (le_refl_b b) hrb
 refine ifb (fun e=>?_) (fun e=>?_)
 ·refine ifNSome ?_
  dsimp only at e
  refine k1 {s with start:=xe,end_:=en,s0:=xe,s1:=en,s2:=⟨K'.a,sets.length,K'.c⟩,s3:=1,keys:=K',kn:=sets.length,kc:=sets.flatMap kcells,buf:=bf',bb:=bb',N:=N,f:=f,pos:=pos} b r sets ⟨cmpV,Ks',kn',cs'⟩ w ⟨hf.dir,hf.rev,hN1,hh,hk1,hk2⟩ hc2 ⟨⟨hxe.2,.inl hxe.1⟩,⟨hss (size_pos hrb),hst⟩,rfl,rfl,rfl,rfl,rfl,rfl,hrb,hbb,hbr,fun y h1 h2=>?_,by rw[<-hgr0.1];exact hvis⟩ hxr' hgr h
  have hgy:=gath_bwd lo ok hc2 h1 h2
  exact⟨hgy.2.1 (hfd.1 e),hgy.1.symm.trans hgr0.1⟩
 ·dsimp only at e
  refine⟨_,ha,{s with start:=xe,end_:=en,s0:=xe,s1:=en,s2:=⟨K'.a,sets.length,K'.c⟩,s3:=1,keys:=K',kn:=sets.length,kc:=sets.flatMap kcells,buf:=bf',bb:=bb',N:=N,f:=f,pos:=pos},⟨cmpV,Ks',kn',cs'⟩,b,rfl,⟨hf.dir,hf.rev,hN1,hh,hk1,hk2⟩,hc2.mono (le_refl_b b) (lt_le_b hrb),hc2.gapB hrb hbb,bcmp_trans (lt_le_b hrb) hxr',fun y h1 h2=>?_,h⟩
  by_cases e1:bcmp r y<=0
  ·exact hgr y e1 h2
  ·intro hcv
   have hgy:=gath_bwd lo ok hc2 h1 (not_le_b.1 e1)
   have:=hfd.2 (hgy.2.2 hcv)
   rw[e]at this;cases this
def SeekPos (c:MC)(key:ByteArray)(l:Nat)(q:Int):Prop:=0<=q/\q<=2*(c.S l).n/\(∀p:Nat,(p:Int)<q->bcmp (bkey (c.S l).spans p) key<=0)/\
 (∀p:Nat,q<=p->p<2*(c.S l).n->bcmp key (bkey (c.S l).spans p)<=0)/\ ∀p:Nat,q<=p->p<2*(c.S l).n->p%2=1->bcmp key (bkey (c.S l).spans p)<0
theorem seek0 {c:MC}{key:ByteArray}{l:Nat}(lo:SpansOK (c.S l).spans)(hn:(c.S l).spans.length=(c.S l).n){j:Nat}(hj:j<=(c.S l).n)(h1: ∀(a:Nat) (x:SpanM),a<j->(c.S l).spans[a]? =some x->bcmp x.hi key<=0)
  (h2: ∀x:SpanM,(c.S l).spans[j]? =some x->bcmp key x.lo<=0):SeekPos c key l (2*(j:Int)):=by
 have up: ∀p:Nat,(2*j:Int)<=p->p<2*(c.S l).n->bcmp key (bkey (c.S l).spans (2*j))<=0:=fun p hp hq=>by
  have hs:=List.getElem?_eq_getElem (show j<(c.S l).spans.length by omega)
  rw[bkey_lo hs];exact h2 _ hs
 refine⟨by omega,by omega,fun p hp=>?_,fun p hp hq=>bcmp_trans (up p hp hq) (bkey_mono lo om om),fun p hp hq ho=>?_⟩
 ·have hs:=List.getElem?_eq_getElem (show p/2<(c.S l).spans.length by omega)
  have h3:=h1 (p/2) _ om hs
  refine bcmp_trans (bkey_mono lo (q:=2*(p/2)+1) om om) ?_
  rw[bkey_hi hs];exact h3
 ·have hs:=List.getElem?_eq_getElem (show p/2<(c.S l).spans.length by omega)
  have h3:=lo.ne _ _ hs
  have e1:=bkey_lo hs
  have e2:=bkey_hi hs
  have e3:p=2*(p/2)+1:=by omega
  have h4:=bcmp_trans (up p hp hq) (bkey_mono lo (p:=2*j) (q:=2*(p/2)) om om)
  rw[e1]at h4
  rw[e3,e2]
  exact bcmp_le_lt h4 h3
theorem seek1 {c:MC}{key:ByteArray}{l:Nat}(lo:SpansOK (c.S l).spans)(hn:(c.S l).spans.length=(c.S l).n){j:Nat}{s:SpanM}(hs:(c.S l).spans[j]? =some s)(h1:bcmp s.lo key<=0)(h2:bcmp key s.hi<0):SeekPos c key l (2*(j:Int)+1):=by
 have hj:=(List.getElem?_eq_some_iff.1 hs).1
 refine⟨by omega,by omega,fun p hp=>?_,fun p hp hq=>?_,fun p hp hq ho=>?_⟩
 ·refine bcmp_trans (bkey_mono lo (q:=2*j) om om) ?_
  rw[bkey_lo hs];exact h1
 ·refine bcmp_trans (lt_le_b h2) ?_
  rw[<-bkey_hi hs];exact bkey_mono lo om om
 ·refine bcmp_lt_le h2 ?_
  rw[<-bkey_hi hs];exact bkey_mono lo om om
theorem spec205 {c:MC}{s:MSt}{v:UC}{u:UV}{kb:ByteArray}{key:Sl}{R R'}{kc:Chunk}{w}{K:Option Addr->WP}(cx:CtxOK c v)(hkn:KN s)(t:Take R kc R')(hkey: ∀w L,Sat w (kc::L)->RdB w key.a key.n kb)(h:Sat w (MSU c s v u R))
  (k0: ∀s' u' w',s'.N=0->(∀y,bcmp kb y<=0-> ¬covd c y)->Sat w' (MSU c s' v u' R)->K none w')
  (k1: ∀s' a b sets u' w',Fwd c s'->Cut c s'.pos a b->Frag c v.sn s' a b sets->bcmp kb b<0->(∀y,bcmp kb y<=0->bcmp y a<0-> ¬covd c y)->Sat w' (MSU c s' v u' R)->K (some (c.m.add 4)) w'):F205 (some c.m) key K w:=by
 have ok:=cx.ok
 have lo:=cx.lo
 have k10:=ok.k10
 unfold F205
 refine call210 (spec210 h fun w h=>?_)
 have h':=h
 unfold MSL hp MSR at h
 refine⟨_,rfl,Ld1 h ⟨_,rfl,Ld1 h ?_⟩⟩
 refine⟨fun m (i:Int) w=> ∃(j:Nat) (pos:Nat->Int),i=j/\j<=c.k/\m=c.k-j/\(∀l,l<j->SeekPos c kb l (pos l+1))/\Sat w (MSU c {s with pos:=pos} v u R),⟨_,0,s.pos,rfl,by omega,rfl,by omega,h'⟩,?_⟩
 clear h h'
 rintro m i w ⟨j,pos,rfl,hj,hm,hsp,h⟩
 have h':=h
 unfold MSU MSL hp MSR at h
 refine ifd (fun hlt=>?_) (fun hge=>?_)
 ·have hjk : j < c.k := by dsimp only at hlt; omega
  have hn:=(ok.S j hjk).len
  have hsm:=(ok.S j hjk).small
  have ew:IntKind.i64.wrap ((j:Int)+1)=((j+1:Nat):Int):=w1 om
  rw[ew,Int.toNat_natCast]
  refine⟨_,rfl,Ld1 h ⟨_,rfl,Ld1 h ⟨⟨by omega,hlt⟩,_,rfl,_,rfl,?_⟩⟩⟩
  obtain⟨xo,hxo,h1⟩:=levOpen (levTake hjk h')
  replace h1:Sat w (Arr ((c.m.add 10).add (j*4)) _::_):=h1
  unfold MSR at h1
  have hso: ∀(a b:Nat) (x y:SpanM),a<b->(c.S j).spans[a]? =some x->(c.S j).spans[b]? =some y->0<bcmp kb y.lo->0<bcmp kb x.lo:=fun a b x y hab hx hy h0=>by
   have g1:=(lo j hjk).so _ _ _ _ hab hx hy
   have g2:=(lo j hjk).ne _ _ hx
   have g3:=bcmp_anti kb y.lo
   have g4:=bcmp_anti kb x.lo
   have:=bcmp_lt_le g2 (bcmp_trans g1 (show bcmp y.lo kb<=0 by omega))
   omega
  refine Ld1 h1 ?_
  refine CallI_run m223SeekLT (call277 (key2:=key) ?_)
  refine spec277 (kb:=kb) (D:=c.D) (spans:=(c.S j).spans) h1 .k1 .k1
   (fun w x h=>hkey w _ (h.take (.there (.there (.there (.there (.there (.there (.there (.there (.there (.there (.there (.there (.there (.there (.there (.there t))))))))))))))))))
   (ok.S j hjk).at_ hn om hso fun q w hq hlo' hhi' h=>?_
  have put: ∀w (p:Int),SeekPos c kb j (p+1)->Sat w (levC c.D (c.q j) (c.S j) p::Own c.D::Fam c.k (upd (mlev c pos) j emp)::_)-> ∃m',m'<m/\ ∃(j':Nat) (pos:Nat->Int),(((j+1:Nat):Int))=j'/\j'<=c.k/\m'=c.k-j'/\(∀l,l<j'->SeekPos c kb l (pos l+1))/\Sat w (MSU c {s with pos:=pos} v u R):=fun w p hp h=>
   ⟨c.k - (j + 1), by omega, j + 1, upd pos j p, rfl, by omega, rfl, fun l hl => by
    by_cases e:l=j
    ·subst e;rw[upd_same];exact hp
    ·rw[upd_other e];exact hsp l om,levPut hjk h⟩
  rcases Nat.eq_zero_or_pos q with rfl|hq0
  ·rw[cur_none om]
   refine ifNone ⟨_,rfl,StL_of (St1 h.t1 rfl fun w h=>St1 h rfl fun w h=>St1 h rfl fun w h=>put w (-1) (by have hh:=seek0 (j:=0) (key:=kb) (lo j hjk) hn om (fun a x ha=>by omega) (fun x hx=>hhi' x hx);simpa using hh) (levShut (x:=⟨none,0,0⟩) (fun h0=>by omega) ?_))⟩
   have e1:lkind (c.S j).n (-1)=0:=by unfold lkind;rw[if_neg om]
   have e2:lptr (c.S j) (-1)=none:=by unfold lptr;rw[if_neg om]
   have e3:lidx (c.S j).n (-1)=((0:Nat):Int)-1:=rfl
   rw[e1,e2,e3]
   exact h
  ·obtain⟨q,rfl⟩: ∃q',q=q'+1:=⟨q-1,by omega⟩
   have hql:q<(c.S j).spans.length:=by omega
   have hs:=List.getElem?_eq_getElem hql
   have hat:=(ok.S j hjk).at_ _ _ hs
   obtain⟨ys,hys,hys2⟩:=hat.1
   obtain⟨ye,hye,hye2⟩:=hat.2.1
   have hlok:bcmp ((c.S j).spans[q]).lo kb<=0:=by have:=hlo' q _ om hs;have:=bcmp_anti kb ((c.S j).spans[q]).lo;omega
   have eq1:(((q+1:Nat):Int)-1)=q:=by omega
   rw[eq1]at h|-
   rw[cur_some om om,Int.toNat_natCast]
   have hrk0:=hkey w.drew _ ((h.near (w':=w.drew)).take (.there (.there (.there (.there (.there (.there (.there (.there (.there (.there (.there (.there (.there (.there (.there (.there t)))))))))))))))))
   refine ifSome ⟨_,rfl,LdC (h.near.dat .k2 hye.1) ?_⟩
   refine call217 ?_
   unfold F217
   refine⟨_,rfl,Ld1 h ⟨_,rfl,Ld1 h ?_⟩⟩
   refine callCmp (h.near.rdB .k2 hye2) hrk0 ?_
   refine ifd (fun hc=>?_) (fun hc=>?_)
   ·refine⟨_,rfl,LdC (h.near.dat .k2 hye.1) ⟨_,rfl,StL_of (St1 h.t1 rfl fun w h=>St1 h rfl fun w h=>St1 h rfl fun w h=>put w (2*(q:Int)+1) ?_ (levShut (x:=ye) (fun _ _=>⟨?_,hye.2⟩) ?_))⟩⟩
    ·have:=seek0 (j:=q+1) (key:=kb) (lo j hjk) hn om (fun a x ha hx=>?_) (fun x hx=>?_)
     ·rwa[show(2*(((q+1:Nat)):Int))=2*(q:Int)+1+1 by omega]at this
     ·by_cases e:a=q
      ·subst e;rw[hs]at hx;injection hx with hx;rw[<-hx];exact hc
      ·have g1:=(lo j hjk).so _ _ _ _ (show a<q by omega) hx hs
       exact bcmp_trans g1 hlok
     ·have:=hhi' x hx;omega
    ·rw[show(2*(q:Int)+1).toNat=2*q+1 by omega,bkey_hi hs];exact hye2
    ·have e1:lkind (c.S j).n (2*q+1)=2:=by unfold lkind;rw[if_pos om,if_neg om]
     have ep:lptr (c.S j) (2*q+1)=some ((c.S j).e.add (q*4)):=by unfold lptr;rw[if_pos om,show((2*(q:Int)+1)/2).toNat=q by omega]
     have e3:lidx (c.S j).n (2*q+1)=q:=by unfold lidx;rw[if_neg om,if_neg om];omega
     rw[e1,ep,e3]
     exact h
   ·refine⟨_,rfl,LdC (h.near.dat .k2 hys.1) ⟨_,rfl,StL_of (St1 h.t1 rfl fun w h=>St1 h rfl fun w h=>St1 h rfl fun w h=>put w (2*(q:Int)) (seek1 (lo j hjk) hn hs hlok (not_le_b.1 hc)) (levShut (x:=ys) (fun _ _=>⟨?_,hys.2⟩) ?_))⟩⟩
    ·rw[show(2*(q:Int)).toNat=2*q by omega,bkey_lo hs];exact hys2
    ·have e1:lkind (c.S j).n (2*q)=1:=by unfold lkind;rw[if_pos om,if_pos om]
     have ep:lptr (c.S j) (2*q)=some ((c.S j).e.add (q*4)):=by unfold lptr;rw[if_pos om,show(2*(q:Int)/2).toNat=q by omega]
     have e3:lidx (c.S j).n (2*q)=q:=by unfold lidx;rw[if_neg om,if_neg om];omega
     rw[e1,ep,e3]
     exact h
 ·have:j=c.k:=by dsimp only at hge;omega
  subst this
  have hposok:PosOk c pos:=fun l hl=>by have:=hsp l hl;exact⟨by have:=this.1;omega,by have:=this.2.1;omega⟩
  refine call213 (spec213 (s:={s with pos:=pos}) ok h' fun N f w hN hh h=>?_)
  dsimp only at hh
  have h':Sat w (MSU c {s with N:=N,f:=f,dir:= -1,rev:=true,pos:=pos} v u R):=h
  clear h
  have h:=h'
  unfold MSU MSL hp MSR at h
  refine⟨_,rfl,Ld1 h ⟨IsI_enc _,?_⟩⟩
  rw[isNilI_enc]
  refine ifn (fun hh=>by cases hh) (fun _=>?_)
  refine⟨_,rfl,Ld1 h ⟨_,rfl,Ld1 h ?_⟩⟩
  have sw: ∀(pos2:Nat->Int),(∀l,l<c.k->pos2 l=nxtp (c.S l).n (pos l))-> ∀l,l<c.k->pos2 l=pos l+1/\SeekPos c kb l (pos2 l):=fun pos2 h2 l hl=>by
   have g:=hsp l hl
   have e:pos2 l=pos l+1:=by rw[h2 l hl];unfold nxtp;rw[if_pos (by have:=g.2.1;omega)]
   exact⟨e,by rw[e];exact g⟩
  have cut2: ∀{pos2:Nat->Int},(∀l,l<c.k->pos2 l=nxtp (c.S l).n (pos l))->Cut c pos2 kb kb:=fun h2 l hl=>by
   obtain⟨_,g0,g1,g2,g3,_⟩:=sw _ h2 l hl
   exact⟨g0,g1,g2,g3⟩
  refine ife (fun hz=>?_) (fun hnz=>?_)
  ·dsimp only at hz
   refine call215 (spec215 (s:={s with N:=N,f:=f,dir:= -1,rev:=true,pos:=pos}) ok hposok h' fun pos2 N2 f2 w hp2 hN2 hh2 h=>?_)
   dsimp only at hp2
   have hq2:=sw _ hp2
   have hc2:=cut2 hp2
   have hneg: ∀l,l<c.k->pos2 l=0:=fun l hl=>by
    obtain⟨e,g0,g1,_⟩:=hq2 l hl
    by_cases e2:0<=pos l
    ·obtain⟨i,hi,_⟩:=hh.all l (show mval c pos l from⟨hl,e2,by omega⟩);omega
    ·omega
   refine call212 (spec212 (s:={s with N:=N2,f:=f2,dir:=1,rev:=false,pos:=pos2}) cx ⟨rfl,rfl,hN2,hh2,hkn⟩ hc2 ?_ h k0 fun s' a b sets u' w f1 f2 f3 f4 f5 h=>k1 s' a b sets u' w f1 f2 f3 (bcmp_le_lt f4 f3.lt) f5 h)
   rintro y hy hb ⟨l,hl,hcv⟩
   refine hcv ?_
   have hn:=(ok.S l hl).len
   have e0:=hneg l hl
   rw[straddle (lo l hl) (q:=0) (Int.le_refl _) om (fun p hp=>by omega) (fun p hp hq=>hb l hl p (by dsimp only;omega) om),if_neg om]
  dsimp only at hnz
  have hN0:0<N:=by omega
  have hv:=hh.ok 0 hN0
  obtain⟨r1,_,rk,xk,hxk,rx⟩:=rootRead (h'.near (w':=w.drew)) (by dsimp only;omega) hN0 hv
  refine⟨_,rfl,Ld1 h ⟨_,rfl,Ld1 h ⟨⟨by omega,by dsimp only;omega⟩,_,rfl,LdC r1 ⟨_,rfl,LdC rx ⟨_,rfl,St1 h rfl fun w h=>?_⟩⟩⟩⟩⟩
  clear r1 rk rx
  have hmax:=rootMax lo ok hh (fun l hl=>(hsp l hl).2.1)
  have hr0k:bcmp (mkey c pos (f 0)) kb<=0:=(hsp _ hv.1).2.2.1 _ (by have:=hv.2;omega)
  have hb0:IsB c (mkey c pos (f 0)):=mval_isB hv
  have hmk:lkind (c.S (f 0)).n (pos (f 0))=2->0<(mkey c pos (f 0)).size:=fun hk=>by
   unfold lkind at hk
   rw[if_pos hv.2]at hk
   split at hk
   ·omega
   ·have hj:(pos (f 0)/2).toNat<(c.S (f 0)).spans.length:=by rw[(ok.S _ hv.1).len];have:=hv.2;omega
    have hs:=List.getElem?_eq_getElem hj
    have e:mkey c pos (f 0)=((c.S (f 0)).spans[(pos (f 0)/2).toNat]).hi:=by
     unfold mkey
     rw[show(pos (f 0)).toNat=2*(pos (f 0)/2).toNat+1 by have:=hv.2;omega]
     exact bkey_hi hs
    rw[e]
    exact size_pos ((lo _ hv.1).ne _ _ hs)
  have hmz:(mkey c pos (f 0)).size<2^40:=bkey_sz (lo _ hv.1) _
  dsimp only at hxk
  refine⟨fun _ w=> ∃st bf' bb',st.a.isSome=true/\(BytesAt c.D st (mkey c pos (f 0))\/(st=bf'/\(mkey c pos (f 0))=bb'))/\Sat w (MSU c {s with N:=N,f:=f,dir:= -1,rev:=true,pos:=pos,start:=st,buf:=bf',bb:=bb'} v u R),?_,?_⟩
  rotate_left
  ·have h':Sat w (MSL c {s with N:=N,f:=f,dir:= -1,rev:=true,pos:=pos,start:=xk} (UIL v.ui v.bf v.cq v.sn u.fnv u.Ks u.kn u.cs R)):=h
   obtain⟨r1,_,rk,_⟩:=rootRead h' (by dsimp only;omega) hN0 hv
   refine⟨_,rfl,Ld1 h ⟨_,rfl,Ld1 h ⟨⟨by omega,by dsimp only;omega⟩,_,rfl,LdC r1 ⟨_,rfl,LdC rk ?_⟩⟩⟩⟩
   refine ife (fun he=>?_) (fun hne=>⟨xk,s.buf,s.bb,hxk.2,.inl hxk.1,h'⟩)
   refine⟨_,rfl,Ld1 h ⟨_,rfl,Ld1 h ⟨_,rfl,Ld1 h ⟨⟨by omega,by dsimp only;omega⟩,_,rfl,Ld1 h ?_⟩⟩⟩⟩
   have hrd:=(h.near (w':=w.drew)).rdB .k3 hxk.1
   have hn:(mkey c pos (f 0)).size=xk.n:=by
    obtain⟨a,n,cc⟩:=xk
    cases a with
    |none=>have:=hxk.2;cases this
    |some a=>exact hrd.1
   have h2:=bufTrunc h.t8
   refine AppP_run (s:=si87) (old:=[]) (d:=⟨s.buf.a,0,s.buf.c⟩) (x:=⟨xk.a,xk.n,xk.c⟩) (new:=bytesOf (mkey c pos (f 0))) h2 hrd.rdS (by rw[bytesOf_length,hn];exact(Nat.mul_one _).symm) (bytes_one _) (by show(2*(0+xk.n)+1024)*1<=_;omega) (by dsimp only;omega) fun bf' w er ea h=>?_
   dsimp only at er ea
   refine⟨LdAt1 h,_,rfl,St1 h rfl fun w h=>⟨_,rfl,Ld1 h ⟨_,rfl,Ld1 h ⟨_,rfl,St1 h rfl fun w h=>⟨bf',bf',_,ea (by have:=hmk he;omega),.inr ⟨rfl,rfl⟩,?_⟩⟩⟩⟩⟩
   exact(((((((((h.mv 0).mv 8).mv 8).mv 8).mv 8).mv 8).mv 8).mv 8).mv 8)
  clear h
  rintro _ w ⟨st,bf',bb',hss,hst,h⟩
  refine call215 (spec215 (s:={s with N:=N,f:=f,dir:= -1,rev:=true,pos:=pos,start:=st,buf:=bf',bb:=bb'}) ok hposok h fun pos2 N2 f2 w hp2 hN2 hh2 h=>?_)
  dsimp only at hp2
  have hq2:=sw _ hp2
  have hc2:=cut2 hp2
  have h':Sat w (MSU c {s with N:=N2,f:=f2,dir:=1,rev:=false,pos:=pos2,start:=st,buf:=bf',bb:=bb'} v u R):=h
  clear h
  have h:=h'
  unfold MSU MSL hp MSR at h
  refine⟨_,rfl,Ld1 h ⟨IsI_enc _,?_⟩⟩
  rw[isNilI_enc]
  refine ifn (fun hh=>by cases hh) (fun _=>?_)
  refine⟨_,rfl,Ld1 h ⟨_,rfl,Ld1 h ?_⟩⟩
  have hrm:=rootMin lo ok hh2 (fun l hl=>(hc2 l hl).1)
  refine ife (fun hz=>?_) (fun hnz=>?_)
  ·dsimp only at hz
   refine k0 _ u _ (by dsimp only;omega) ?_ h'.near
   rintro y hy ⟨l,hl,hcv⟩
   refine hcv ?_
   have hn:=(ok.S l hl).len
   obtain⟨g0,g1,g2,g3⟩:=hc2 l hl
   have e2:pos2 l=2*(c.S l).n:=by
    by_cases e3:pos2 l<2*(c.S l).n
    ·have:=(hrm l hl (pos2 l).toNat om om).1;omega
    ·omega
   rw[straddle (lo l hl) g0 om (fun p hp=>bcmp_trans (g2 p hp) hy) (fun p hp hq=>by omega),if_neg om]
  dsimp only at hnz
  have hN20:0<N2:=by omega
  have hv2:=hh2.ok 0 hN20
  have hkr:bcmp kb (mkey c pos2 (f2 0))<=0:=(hc2 _ hv2.1).2.2.2 _ (by have:=hv2.2;omega) (by have:=hv2.2;omega)
  have hb2:IsB c (mkey c pos2 (f2 0)):=mval_isB hv2
  have hfw:Fwd c {s with N:=N2,f:=f2,dir:=1,rev:=false,pos:=pos2,start:=st,buf:=bf',bb:=bb'}:=⟨rfl,rfl,hN2,hh2,hkn⟩
  refine⟨fun _ w=>bcmp kb (mkey c pos2 (f2 0))<0/\Sat w (MSU c {s with N:=N2,f:=f2,dir:=1,rev:=false,pos:=pos2,start:=st,buf:=bf',bb:=bb'} v u R),?_,?_⟩
  rotate_left
  ·obtain⟨r1,_,rk,xe,hxe,rx⟩:=rootRead (h'.near (w':=w.drew)) (by dsimp only;omega) hN20 hv2
   refine⟨_,rfl,Ld1 h ⟨_,rfl,Ld1 h ⟨⟨by omega,by dsimp only;omega⟩,_,rfl,LdC r1 ⟨_,rfl,LdC rk ?_⟩⟩⟩⟩
   refine ife (fun he=>?_) (fun hne=>⟨?_,h'.near⟩)
   ·refine⟨_,rfl,Ld1 h ⟨_,rfl,Ld1 h ⟨⟨by omega,by dsimp only;omega⟩,_,rfl,LdC r1 ⟨_,rfl,LdC rx ?_⟩⟩⟩⟩
    refine call217 (spec217 h'.near (h.near.rdB .k3 hxe.1) (hkey _ _ (h.near.take (.there (.there (.there (.there (.there (.there (.there (.there (.there (.there (.there (.there (.there (.there t)))))))))))))))) ?_)
    refine ife (fun he2=>?_) (fun hne2=>⟨bcmp_ne hkr hne2,h'.near⟩)
    refine call212 (spec212 (u:=u) cx hfw hc2 ?_ h'.near k0 fun s' a b sets u' w f1 f2 f3 f4 f5 h=>k1 s' a b sets u' w f1 f2 f3 (bcmp_le_lt f4 f3.lt) f5 h)
    intro y hy hb
    have:=hb _ hv2.1 (pos2 (f2 0)).toNat (by have:=hv2.2;dsimp only;omega) (by have:=hv2.2;omega)
    have e:=bcmp_zero he2
    unfold mkey at e
    rw[e]at this
    exact absurd this (not_lt_b.2 hy)
   ·have hodd:(pos2 (f2 0)).toNat%2=1:=by
     unfold lkind at hne
     rw[if_pos hv2.2]at hne
     have:=hv2.2
     by_cases e:pos2 (f2 0)%2=0
     ·rw[if_pos e]at hne;exact(hne rfl).elim
     ·omega
    exact(hq2 _ hv2.1).2.2.2.2.2 _ (by have:=hv2.2;omega) (by have:=hv2.2;omega) hodd
  clear h h'
  rintro _ w ⟨hkb,h⟩
  have h':=h
  obtain⟨r1,_,_,xe,hxe,rx⟩:=rootRead h' (by dsimp only;omega) hN20 hv2
  unfold MSU MSL hp MSR at h
  refine⟨_,rfl,Ld1 h ⟨_,rfl,Ld1 h ⟨⟨by omega,by dsimp only;omega⟩,_,rfl,LdC r1 ⟨_,rfl,LdC rx ⟨_,rfl,St1 h rfl fun w h=>?_⟩⟩⟩⟩⟩
  clear r1 rx h'
  dsimp only at hxe
  have hrb:bcmp (mkey c pos (f 0)) (mkey c pos2 (f2 0))<0:=bcmp_le_lt hr0k hkb
  have hc3:Cut c pos2 (mkey c pos (f 0)) (mkey c pos2 (f2 0)):=fun l hl=>by
   obtain⟨g0,g1,g2,g3⟩:=hc2 l hl
   have e:=(hq2 l hl).1
   exact⟨g0,g1,fun p hp=>(hmax l hl p om).2,fun p hp hq=>(hrm l hl p hp hq).2⟩
  refine call218 (spec218 (s:={s with N:=N2,f:=f2,dir:=1,rev:=false,pos:=pos2,start:=st,buf:=bf',bb:=bb',end_:=xe}) ok (.inl rfl) cx.kg cx.eq cx.tv h fun fd sets K' Ks' kn' cs' w hfd hvis hk1 hk2 h=>?_)
  dsimp only at hfd hvis
  have hgr0:=gath_fwd lo ok hc3 (le_refl_b _) hrb
  have nxt:fd=false->CallF Tryz.prog 212 [.pointer (some c.m)] [(.one .ptr)] (fun(r:Option Addr) w=>K r w) w:=fun e=>by
   refine call212 (spec212 (s:={s with N:=N2,f:=f2,dir:=1,rev:=false,pos:=pos2,start:=st,buf:=bf',bb:=bb',end_:=xe,s0:=st,s1:=xe,s2:=⟨K'.a,sets.length,K'.c⟩,s3:=1,keys:=K',kn:=sets.length,kc:=sets.flatMap kcells}) (u:=⟨cmpV,Ks',kn',cs'⟩) cx ⟨rfl,rfl,hN2,hh2,hk1,hk2⟩ hc2 ?_ h k0 fun s' a b sets u' w f1 f2 f3 f4 f5 h=>k1 s' a b sets u' w f1 f2 f3 (bcmp_le_lt f4 f3.lt) f5 h)
   intro y hy hb hcv
   have hyb:=hb _ hv2.1 (pos2 (f2 0)).toNat (by have:=hv2.2;dsimp only;omega) (by have:=hv2.2;omega)
   have hgy:=gath_fwd lo ok hc3 (bcmp_trans hr0k hy) hyb
   have:=hfd.2 (hgy.2.2 hcv)
   rw[e]at this;cases this
  refine ifb (fun e=>?_) (fun e=>nxt e)
  refine ifNSome ?_
  dsimp only at e
  refine k1 {s with N:=N2,f:=f2,dir:=1,rev:=false,pos:=pos2,start:=st,buf:=bf',bb:=bb',end_:=xe,s0:=st,s1:=xe,s2:=⟨K'.a,sets.length,K'.c⟩,s3:=1,keys:=K',kn:=sets.length,kc:=sets.flatMap kcells} (mkey c pos (f 0)) (mkey c pos2 (f2 0)) sets ⟨cmpV,Ks',kn',cs'⟩ w ⟨rfl,rfl,hN2,hh2,hk1,hk2⟩ hc3 ⟨⟨hss,hst⟩,⟨hxe.2,.inl hxe.1⟩,rfl,rfl,rfl,rfl,rfl,rfl,hrb,hb0,hb2,fun y h1 h2=>?_,by rw[<-hgr0.1];exact hvis⟩ hkb (fun y h1 h2=>absurd (bcmp_trans hr0k h1) (not_le_b.2 h2)) h
  have hgy:=gath_fwd lo ok hc3 h1 h2
  exact⟨hgy.2.1 (hfd.1 e),hgy.1.symm.trans hgr0.1⟩
def NextAt (c:MC)(s:MSt)(x:ByteArray):Prop:=
 (Fwd c s/\s.start.a.isSome=true/\s.end_.a.isSome=true/\Cut c s.pos x x/\GapF c s.pos x)\/(s.dir= -1/\KN s/\Cut c (fun l=>s.pos l+1) x x/\GapF c (fun l=>s.pos l+1) x)
def PrevAt (c:MC)(s:MSt)(x:ByteArray):Prop:=
 (Bwd c s/\s.start.a.isSome=true/\s.end_.a.isSome=true/\Cut c (fun l=>s.pos l+1) x x/\GapB c (fun l=>s.pos l+1) x)\/(s.dir=1/\KN s/\Cut c s.pos x x/\GapB c s.pos x)
theorem spec203 {c:MC}{s:MSt}{v:UC}{u:UV}{x:ByteArray}{R w}{K:Option Addr->WP}(cx:CtxOK c v)(hn:NextAt c s x)(h:Sat w (MSU c s v u R))
  (k0: ∀s' u' w',s'.N=0->(∀y,bcmp x y<=0-> ¬covd c y)->Sat w' (MSU c s' v u' R)->K none w')
  (k1: ∀s' a b sets u' w',Fwd c s'->Cut c s'.pos a b->Frag c v.sn s' a b sets->bcmp x a<=0->(∀y,bcmp x y<=0->bcmp y a<0-> ¬covd c y)->Sat w' (MSU c s' v u' R)->K (some (c.m.add 4)) w'):F203 (some c.m) K w:=by
 unfold F203
 have h':=h
 unfold MSU MSL hp MSR at h
 refine⟨_,rfl,Ld1 h ⟨IsI_enc _,?_⟩⟩
 rw[isNilI_enc]
 refine ifn (fun hh=>by cases hh) (fun _=>?_)
 refine⟨fun _ w=>Sat w (MSU c s v u R),?_,?_⟩
 ·clear h h'
  intro _ w h
  have h':=h
  unfold MSU MSL hp MSR at h
  refine⟨_,rfl,Ld1 h ?_⟩
  rcases hn with⟨hf,_,_,hc,hg⟩|⟨hd,hkn,hc,hg⟩
  ·refine ifne (fun hh=>absurd hf.dir hh) (fun _=>?_)
   exact call212 (spec212 cx hf hc hg h' k0 k1)
  ·refine ifne (fun _=>?_) (fun hh=>by omega)
   have hcl: ∀l,l<c.k->0<=s.pos l+1/\s.pos l+1<=2*((c.S l).n:Int):=fun l hl=>⟨(hc l hl).1,(hc l hl).2.1⟩
   refine call215 (spec215 cx.ok (fun l hl=>by have:=hcl l hl;exact⟨by omega,by omega⟩) h' fun pos2 N2 f2 w hp2 hN2 hh2 h=>?_)
   have e: ∀l,l<c.k->pos2 l=s.pos l+1:=fun l hl=>by
    rw[hp2 l hl];unfold nxtp;rw[if_pos (by have:=hcl l hl;omega)]
   refine call212 (spec212 (s:={s with N:=N2,f:=f2,dir:=1,rev:=false,pos:=pos2}) (u:=u) (x:=x) cx ⟨rfl,rfl,hN2,hh2,hkn⟩ (fun l hl=>?_) (fun y hy hb=>hg y hy fun l hl p hp hq=>hb l hl p (by dsimp only at hp|-;rw[e l hl];exact hp) hq) h k0 k1)
   dsimp only
   rw[e l hl];exact hc l hl
 ·refine⟨_,rfl,Ld1 h ?_⟩
  refine ife (fun hd=>?_) (fun _=>h')
  rcases hn with⟨hf,h1,h2,_⟩|⟨hd',_⟩
  ·refine⟨_,rfl,Ld1 h (ifbf (fun _=>⟨_,rfl,Ld1 h (ifb (fun hh=>?_) fun _=>h')⟩) (fun hh=>?_))⟩
   ·dsimp only at hh;cases e:s.start.a<;>simp_all
   ·dsimp only at hh;cases e:s.end_.a<;>simp_all
  ·omega
theorem spec204 {c:MC}{s:MSt}{v:UC}{u:UV}{x:ByteArray}{R w}{K:Option Addr->WP}(cx:CtxOK c v)(hn:PrevAt c s x)(h:Sat w (MSU c s v u R))
  (k0: ∀s' u' w',s'.N=0->s'.dir= -1->KN s'->(∀l,l<c.k->s'.pos l= -1)->(∀y,bcmp y x<0-> ¬covd c y)->Sat w' (MSU c s' v u' R)->K none w')
  (k1: ∀s' a b sets u' w',Bwd c s'->Cut c (fun l=>s'.pos l+1) a b->Frag c v.sn s' a b sets->bcmp b x<=0->(∀y,bcmp b y<=0->bcmp y x<0-> ¬covd c y)->Sat w' (MSU c s' v u' R)->K (some (c.m.add 4)) w'):F204 (some c.m) K w:=by
 unfold F204
 have h':=h
 unfold MSU MSL hp MSR at h
 refine⟨_,rfl,Ld1 h ⟨IsI_enc _,?_⟩⟩
 rw[isNilI_enc]
 refine ifn (fun hh=>by cases hh) (fun _=>?_)
 refine⟨fun _ w=>Sat w (MSU c s v u R),?_,?_⟩
 ·clear h h'
  intro _ w h
  have h':=h
  unfold MSU MSL hp MSR at h
  refine⟨_,rfl,Ld1 h ?_⟩
  rcases hn with⟨hf,_,_,hc,hg⟩|⟨hd,hkn,hc,hg⟩
  ·refine ifne (fun hh=>absurd hf.dir hh) (fun _=>?_)
   exact call214 (spec214 cx hf hc hg h' k0 k1)
  ·refine ifne (fun _=>?_) (fun hh=>by omega)
   refine call216 (spec216 cx.ok (fun l hl=>by obtain⟨g0,g1,_⟩:=hc l hl;exact⟨by omega,by omega⟩) h' fun pos2 N2 f2 w hp2 hN2 hh2 h=>?_)
   have e: ∀l,l<c.k->pos2 l+1=s.pos l:=fun l hl=>by
    rw[hp2 l hl];unfold prvp;rw[if_neg (by obtain⟨g0,g1,_⟩:=hc l hl;omega)];omega
   refine call214 (spec214 (s:={s with N:=N2,f:=f2,dir:= -1,rev:=true,pos:=pos2}) (u:=u) (x:=x) cx ⟨rfl,rfl,hN2,hh2,hkn⟩ (fun l hl=>?_) (fun y hy hb=>hg y hy fun l hl p hp=>hb l hl p (by dsimp only at hp|-;rw[e l hl];exact hp)) h k0 k1)
   dsimp only
   rw[e l hl];exact hc l hl
 ·refine⟨_,rfl,Ld1 h ?_⟩
  refine ife (fun hd=>?_) (fun _=>h')
  rcases hn with⟨hf,h1,h2,_⟩|⟨hd',_⟩
  ·refine⟨_,rfl,Ld1 h (ifbf (fun _=>⟨_,rfl,Ld1 h (ifb (fun hh=>?_) fun _=>h')⟩) (fun hh=>?_))⟩
   ·dsimp only at hh;cases e:s.start.a<;>simp_all
   ·dsimp only at hh;cases e:s.end_.a<;>simp_all
  ·omega
end Go.Proofs.YtpkoddfamelnhaaGreatDoor
