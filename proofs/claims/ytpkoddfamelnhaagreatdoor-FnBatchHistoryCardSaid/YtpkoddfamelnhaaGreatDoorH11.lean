/- Part 11 of the proof of fnBatchHistory_card. Conditions: none. -/
import Derived.Test.YtpkoddfamelnhaaGreatDoorH10
set_option linter.unusedVariables false
set_option linter.unusedSimpArgs false
namespace Go.Tr
theorem Sat.ex {w}{α:Type}{P:α->Prop}{c:α->Chunk}{L}(h:Sat w ((fun g=> ∃x,P x/\c x g)::L)): ∃x,P x/\Sat w (c x::L):=by
 obtain⟨g,⟨x,hx,hc⟩,hg,hr⟩:=h
 exact⟨x,hx,g,hc,hg,hr⟩
theorem Sat.exI {w}{α:Type}{P:α->Prop}{c:α->Chunk}{L}{x:α}(hx:P x)(h:Sat w (c x::L)):Sat w ((fun g=> ∃x,P x/\c x g)::L):=
 h.cons fun _ hg=>⟨x,hx,hg⟩
theorem ifNone {α:Type}{A B:Prop}(a:A):if(none:Option α).isNone=true then A else B:=by rw[if_pos (by simp)];exact a
theorem ifSome {α:Type}{x:α}{A B:Prop}(b:B):if(some x).isNone=true then A else B:=by rw[if_neg (by simp)];exact b
end Go.Tr
namespace Go.Proofs.YtpkoddfamelnhaaGreatDoor
open Go Go.Tr
set_option maxRecDepth 100000
theorem w1 {n:Nat}(h:n<2^60):IntKind.i64.wrap ((n:Int)+1)=((n+1:Nat):Int):=by rw[wi64 om om];omega
theorem m223Next :MethAt Tryz.prog 223 "Next" 274:=by intro v w;kernel_rfl
theorem m223Prev :MethAt Tryz.prog 223 "Prev" 275:=by intro v w;kernel_rfl
theorem m223First :MethAt Tryz.prog 223 "First" 272:=by intro v w;kernel_rfl
theorem m223SeekLT :MethAt Tryz.prog 223 "SeekLT" 277:=by intro v w;kernel_rfl
theorem m223Error :MethAt Tryz.prog 223 "Error" 271:=by intro v w;kernel_rfl
structure LevS where
 it:Addr
 e:Addr
 n:Nat
 c:Nat
 spans:List SpanM
structure LevS.ok (D:Hp)(S:LevS):Prop where
 len:S.spans.length=S.n
 at_:SpansAt D S.e S.spans
 small:S.n<2^40
def bkey (l:List SpanM)(p:Nat):ByteArray:=match l[p/2]? with
 |some s=>if p%2=0 then s.lo else s.hi
 |none=>.empty
def lkind (n:Nat)(p:Int):Int:=if 0<=p/\p<2*n then(if p%2=0 then 1 else 2)else 0
def lptr (S:LevS)(p:Int):Option Addr:=if 0<=p/\p<2*S.n then some (S.e.add ((p/2).toNat*4))else none
def lidx (n:Nat)(p:Int):Int:=if p<0 then-1 else if 2*(n:Int)<=p then n else p/2
def levC (D:Hp)(q:Addr)(S:LevS)(p:Int):Chunk:=fun g=> ∃x:Sl,(0<=p->p<2*S.n->BytesAt D x (bkey S.spans p.toNat)/\x.a.isSome=true)/\
 Star (Arr q [.iface 223 (.pointer (some S.it)),.int .i8 (lkind S.n p),.slice x.a x.n x.c,.pointer (lptr S p)]) (itC S.it S.e S.n S.c (lidx S.n p)) g
theorem levOpen {D}{q:Addr}{S:LevS}{p:Int}{w L}(h:Sat w (levC D q S p::L)): ∃x:Sl,(0<=p->p<2*S.n->BytesAt D x (bkey S.spans p.toNat)/\x.a.isSome=true)/\
  Sat w (Arr q [.iface 223 (.pointer (some S.it)),.int .i8 (lkind S.n p),.slice x.a x.n x.c,.pointer (lptr S p)]::itC S.it S.e S.n S.c (lidx S.n p)::L):=by
 obtain⟨x,hx,h⟩:=Sat.ex h
 exact⟨x,hx,Sat.star.1 h⟩
theorem levShut {D}{q:Addr}{S:LevS}{p:Int}{w L}{x:Sl}(hx:0<=p->p<2*S.n->BytesAt D x (bkey S.spans p.toNat)/\x.a.isSome=true)
  (h:Sat w (Arr q [.iface 223 (.pointer (some S.it)),.int .i8 (lkind S.n p),.slice x.a x.n x.c,.pointer (lptr S p)]::itC S.it S.e S.n S.c (lidx S.n p)::L)):Sat w (levC D q S p::L):=
 Sat.exI hx (Sat.star.2 h)
theorem bkey_lo {l:List SpanM}{j:Nat}{s:SpanM}(h:l[j]? =some s):bkey l (2*j)=s.lo:=by
 unfold bkey;rw[show 2*j/2=j by omega,h];simp
theorem bkey_hi {l:List SpanM}{j:Nat}{s:SpanM}(h:l[j]? =some s):bkey l (2*j+1)=s.hi:=by
 unfold bkey;rw[show(2*j+1)/2=j by omega,h];simp
def nxtp (n:Nat)(p:Int):Int:=if p<2*n then p+1 else p
def prvp (p:Int):Int:=if p<0 then p else p-1
theorem spec223 {D}{q:Addr}{S:LevS}{p:Int}{w R}{K:Unit->WP}(ok:S.ok D)(hp0: -1<=p)(hp1:p<=2*S.n)(h:Sat w (levC D q S p::Own D::R))
  (k: ∀w',Sat w' (levC D q S (nxtp S.n p)::Own D::R)->K () w'):F223 (some q) K w:=by
 unfold F223
 obtain⟨x,hx,h⟩:=levOpen h
 refine⟨_,rfl,Ld1 h ?_⟩
 refine ife (fun hk=>?_) (fun hk=>?_)
 ·have hv:0<=p/\p<2*S.n/\p%2=0:=by
   unfold lkind at hk
   split at hk
   ·split at hk<;>omega
   ·omega
  obtain⟨j,rfl⟩: ∃j:Nat,p=2*j:=⟨(p/2).toNat,by omega⟩
  have hj:j<S.spans.length:=by rw[ok.len];omega
  have hs:=List.getElem?_eq_getElem hj
  obtain⟨y,hy1,hy2⟩:=(ok.at_ _ _ hs).2.1
  have ep:lptr S (2*j)=some (S.e.add (j*4)):=by unfold lptr;rw[if_pos om,show(2*(j:Int)/2).toNat=j by omega]
  have ep':lptr S (2*j+1)=some (S.e.add (j*4)):=by unfold lptr;rw[if_pos om,show((2*(j:Int)+1)/2).toNat=j by omega]
  rw[ep]at h
  refine⟨_,rfl,Ld1 h ⟨_,rfl,LdC (h.near.dat .k2 hy1.1) ⟨_,rfl,Ld1 h ⟨_,rfl,StL_of (St1 h rfl fun w h=>St1 h rfl fun w h=>St1 h rfl fun w h=>k w ?_)⟩⟩⟩⟩
  unfold nxtp
  rw[if_pos om]
  refine levShut (x:=y) (fun _ _=>?_) ?_
  ·rw[show(2*(j:Int)+1).toNat=2*j+1 by omega,bkey_hi hs];exact⟨hy2,hy1.2⟩
  ·rw[ep']
   have e1:lkind S.n (2*j+1)=2:=by unfold lkind;rw[if_pos om,if_neg om]
   have e2:lidx S.n (2*j+1)=lidx S.n (2*j):=by unfold lidx;rw[if_neg om,if_neg om,if_neg om,if_neg om];omega
   rw[e1,e2]
   exact h
 ·have hv:p<0\/2*S.n<=p\/p%2=1:=by
   unfold lkind at hk
   by_cases h1:0<=p/\p<2*S.n
   ·rw[if_pos h1]at hk
    by_cases h2:p%2=0
    ·rw[if_pos h2]at hk;exact(hk rfl).elim
    ·omega
   ·omega
  refine⟨_,rfl,Ld1 h ?_⟩
  refine CallI_run m223Next (call274 (spec274 h .k1 ?_ (by have:=ok.small;omega) fun w h=>?_))
  ·unfold lidx;split<;>(try split)<;>omega
  have ei:(if lidx S.n p<(S.n:Int)then lidx S.n p+1 else lidx S.n p)=lidx S.n (nxtp S.n p):=by
   unfold lidx nxtp
   by_cases h1:p<0
   ·rw[if_pos h1,if_pos (show(-1:Int)<S.n by omega),if_pos (show p<2*(S.n:Int) by omega)]
    have:p= -1:=by omega
    subst this
    rw[if_neg om]
    split<;>omega
   ·by_cases h2:2*(S.n:Int)<=p
    ·simp only[if_neg h1,if_pos h2]
     rw[if_neg (Int.lt_irrefl _),if_neg (show¬p<2*(S.n:Int) by omega),if_neg h1,if_pos h2]
    ·simp only[if_neg h1,if_neg h2]
     rw[if_pos (show p/2<(S.n:Int) by omega),if_pos (show p<2*(S.n:Int) by omega),if_neg (show¬p+1<0 by omega)]
     split<;>omega
  rw[ei]at h|-
  have hq:nxtp S.n p=2*S.n\/(0<=nxtp S.n p/\nxtp S.n p<2*S.n/\nxtp S.n p%2=0):=by unfold nxtp;split<;>omega
  generalize nxtp S.n p=p' at*
  rcases hq with rfl|⟨h0,h1,h2⟩
  ·have e0:lidx S.n (2*S.n)=S.n:=by unfold lidx;rw[if_neg om,if_pos om]
   rw[cur_none om]
   refine ifNone ⟨_,rfl,StL_of (St1 h.t1 rfl fun w h=>St1 h rfl fun w h=>St1 h rfl fun w h=>k w ?_)⟩
   refine levShut (x:=⟨none,0,0⟩) (fun _ h=>by omega) ?_
   have e1:lkind S.n (2*S.n)=0:=by unfold lkind;rw[if_neg om]
   have e2:lptr S (2*S.n)=none:=by unfold lptr;rw[if_neg om]
   rw[e1,e2]
   exact h
  ·obtain⟨j,rfl⟩: ∃j:Nat,p'=2*j:=⟨(p'/2).toNat,by omega⟩
   have hj:j<S.spans.length:=by rw[ok.len];omega
   have hs:=List.getElem?_eq_getElem hj
   obtain⟨y,hy1,hy2⟩:=(ok.at_ _ _ hs).1
   have e0:lidx S.n (2*j)=j:=by unfold lidx;rw[if_neg om,if_neg om];omega
   rw[e0]at h|-
   rw[cur_some om om,show(j:Int).toNat=j by omega]
   refine ifSome ⟨_,rfl,LdC (h.near.dat .k2 hy1.1) ⟨_,rfl,StL_of (St1 h.t1 rfl fun w h=>St1 h rfl fun w h=>St1 h rfl fun w h=>k w ?_)⟩⟩
   refine levShut (x:=y) (fun _ _=>?_) ?_
   ·rw[show(2*(j:Int)).toNat=2*j by omega,bkey_lo hs];exact⟨hy2,hy1.2⟩
   ·have e1:lkind S.n (2*j)=1:=by unfold lkind;rw[if_pos om,if_pos om]
    have ep:lptr S (2*j)=some (S.e.add (j*4)):=by unfold lptr;rw[if_pos om,show(2*(j:Int)/2).toNat=j by omega]
    rw[e1,ep,e0]
    exact h
theorem spec224 {D}{q:Addr}{S:LevS}{p:Int}{w R}{K:Unit->WP}(ok:S.ok D)(hp0: -1<=p)(hp1:p<=2*S.n)(h:Sat w (levC D q S p::Own D::R))
  (k: ∀w',Sat w' (levC D q S (prvp p)::Own D::R)->K () w'):F224 (some q) K w:=by
 unfold F224
 obtain⟨x,hx,h⟩:=levOpen h
 refine⟨_,rfl,Ld1 h ?_⟩
 refine ife (fun hk=>?_) (fun hk=>?_)
 ·have hv:0<=p/\p<2*S.n/\p%2=1:=by
   unfold lkind at hk
   split at hk
   ·split at hk<;>omega
   ·omega
  obtain⟨j,rfl⟩: ∃j:Nat,p=2*j+1:=⟨(p/2).toNat,by omega⟩
  have hj:j<S.spans.length:=by rw[ok.len];omega
  have hs:=List.getElem?_eq_getElem hj
  obtain⟨y,hy1,hy2⟩:=(ok.at_ _ _ hs).1
  have ep:lptr S (2*j+1)=some (S.e.add (j*4)):=by unfold lptr;rw[if_pos om,show((2*(j:Int)+1)/2).toNat=j by omega]
  have ep':lptr S (2*j)=some (S.e.add (j*4)):=by unfold lptr;rw[if_pos om,show(2*(j:Int)/2).toNat=j by omega]
  rw[ep]at h
  refine⟨_,rfl,Ld1 h ⟨_,rfl,LdC (h.near.dat .k2 hy1.1) ⟨_,rfl,Ld1 h ⟨_,rfl,StL_of (St1 h rfl fun w h=>St1 h rfl fun w h=>St1 h rfl fun w h=>k w ?_)⟩⟩⟩⟩
  unfold prvp
  rw[if_neg om,show(2*(j:Int)+1-1)=2*j by omega]
  refine levShut (x:=y) (fun _ _=>?_) ?_
  ·rw[show(2*(j:Int)).toNat=2*j by omega,bkey_lo hs];exact⟨hy2,hy1.2⟩
  ·rw[ep']
   have e1:lkind S.n (2*j)=1:=by unfold lkind;rw[if_pos om,if_pos om]
   have e2:lidx S.n (2*j+1)=lidx S.n (2*j):=by unfold lidx;rw[if_neg om,if_neg om,if_neg om,if_neg om];omega
   rw[e1,<-e2]
   exact h
 ·have hv:p<0\/2*S.n<=p\/p%2=0:=by
   unfold lkind at hk
   by_cases h1:0<=p/\p<2*S.n
   ·rw[if_pos h1]at hk
    by_cases h2:p%2=0
    ·omega
    ·rw[if_neg h2]at hk;exact(hk rfl).elim
   ·omega
  refine⟨_,rfl,Ld1 h ?_⟩
  refine CallI_run m223Prev (call275 (spec275 h .k1 ?_ ?_ (by have:=ok.small;omega) fun w h=>?_))
  ·unfold lidx;split<;>(try split)<;>omega
  ·unfold lidx;split<;>(try split)<;>omega
  have ei:(if lidx S.n p<0 then lidx S.n p else lidx S.n p-1)=lidx S.n (prvp p):=by
   unfold lidx prvp
   by_cases h1:p<0
   ·simp only[if_pos h1];rw[if_pos om]
   ·by_cases h2:2*(S.n:Int)<=p
    ·simp only[if_neg h1,if_pos h2]
     rw[if_neg (show¬(S.n:Int)<0 by omega)]
     by_cases h3:p-1<0
     ·rw[if_pos h3];omega
     ·rw[if_neg h3,if_neg om];omega
    ·simp only[if_neg h1,if_neg h2]
     rw[if_neg (show¬p/2<0 by omega)]
     by_cases h3:p-1<0
     ·rw[if_pos h3];omega
     ·rw[if_neg h3,if_neg om];omega
  rw[ei]at h|-
  have hq:prvp p= -1\/(0<=prvp p/\prvp p<2*S.n/\prvp p%2=1):=by unfold prvp;split<;>omega
  generalize prvp p=p' at*
  rcases hq with rfl|⟨h0,h1,h2⟩
  ·have e0:lidx S.n (-1)= -1:=rfl
   rw[cur_none om]
   refine ifNone ⟨_,rfl,StL_of (St1 h.t1 rfl fun w h=>St1 h rfl fun w h=>St1 h rfl fun w h=>k w ?_)⟩
   refine levShut (x:=⟨none,0,0⟩) (fun h _=>by omega) ?_
   have e1:lkind S.n (-1)=0:=by unfold lkind;rw[if_neg om]
   have e2:lptr S (-1)=none:=by unfold lptr;rw[if_neg om]
   rw[e1,e2]
   exact h
  ·obtain⟨j,rfl⟩: ∃j:Nat,p'=2*j+1:=⟨(p'/2).toNat,by omega⟩
   have hj:j<S.spans.length:=by rw[ok.len];omega
   have hs:=List.getElem?_eq_getElem hj
   obtain⟨y,hy1,hy2⟩:=(ok.at_ _ _ hs).2.1
   have e0:lidx S.n (2*j+1)=j:=by unfold lidx;rw[if_neg om,if_neg om];omega
   rw[e0]at h|-
   rw[cur_some om om,show(j:Int).toNat=j by omega]
   refine ifSome ⟨_,rfl,LdC (h.near.dat .k2 hy1.1) ⟨_,rfl,StL_of (St1 h.t1 rfl fun w h=>St1 h rfl fun w h=>St1 h rfl fun w h=>k w ?_)⟩⟩
   refine levShut (x:=y) (fun _ _=>?_) ?_
   ·rw[show(2*(j:Int)+1).toNat=2*j+1 by omega,bkey_hi hs];exact⟨hy2,hy1.2⟩
   ·have e1:lkind S.n (2*j+1)=2:=by unfold lkind;rw[if_pos om,if_neg om]
    have ep:lptr S (2*j+1)=some (S.e.add (j*4)):=by unfold lptr;rw[if_pos om,show((2*(j:Int)+1)/2).toNat=j by omega]
    rw[e1,ep,e0]
    exact h
open Go.IntKind (i64 u64 u32 u8)
set_option maxRecDepth 1000000
set_option linter.unusedVariables false
noncomputable section
def A72 :=au Tryz.f72 [] []
def F72 (out1:Option Addr)(K:(Option Addr)->WP)(w:World):Prop:=NewP [.pointer out1] 235 (fun n2 w=>CallF Tryz.prog 24 [] [tP] (fun r3 w=>LdF r3 0 tF (fun a w=>Ones [(.func (.func 107) #[] #[.pointer (some n2)]),(FV.enc a)]/\NewP [(FV.enc a),.nilFunc,(.func (.func 107) #[] #[.pointer (some n2)]),.slice none 0 0,.slice none 0 0,.nilFunc,.slice none 0 0,.slice none 0 0,.slice none 0 0,.bool false] 257 (fun n6 w=>K (some n6) w) w) w) w) w
theorem call72 {out1 K w}(h:F72 out1 K w):CallF Tryz.prog 72 [.pointer out1] [tP] K w:=ctr Tryz.func72 A72 (by kernel_rfl) (by kernel_rfl) h
def A73 :=au Tryz.f73 [(3,[]),(13,[]),(32,[]),(38,[]),(42,[])] []
def F73 (f1:Option Addr)(s2:Sl×Sl×Sl×Int)(K:Unit->WP)(w:World):Prop:=NewP [.pointer f1] 233 (fun n3 w=>NewP [s2.1.v,s2.2.1.v,s2.2.2.1.v,.int .i8 s2.2.2.2] 113 (fun n4 w=>Tr.Join (fun(s5:Unit) w=>Tr.Join (fun(s7:Unit) w=>Ld tP n3 (fun x9 w=>LdF x9 0 tF (fun a0 w=>Ld tS (n4.add 0) (fun a1 w=>Ld tS (n4.add 1) (fun a2 w=>CallV Tryz.prog (FV.enc a0) [a1.v,a2.v] [ti64] (fun(a3:Int) w=>(if(decide (a3>=(0:Int)))=true then K () w else Tr.Join (fun(a4:Unit) w=>Tr.Join (fun(a5:Unit) w=>Ld tP n3 (fun a6 w=>Ld tP n3 (fun a7 w=> ∃a8,a7=some a8/\Ld tS (a8.add 3) (fun a9 w=>Ld (.agg [.sl,.sl,.sl,.int .i8]) n4 (fun(aa:Sl×Sl×Sl×Int) w=>NewS [aa.1.v,aa.2.1.v,aa.2.2.1.v,.int .i8 aa.2.2.2] 113 1 (fun ab w=>LdAt tS (a8.add 3) a9 w/\LdAt tP n3 a7 w/\LdAt tP n3 a6 w/\AppP si193 a9 ab (fun ac w=>LdAt tP n3 a6 w/\StF a6 3 (ac.v) (fun w=>K () w) w) w) w) w) w) w) w.drew) (fun ad=>Ld tP n3 (fun ae w=>LdF ae 3 tS (fun af w=>(if(decide ((af.n:Int)>0))=true then Tr.Join (fun(ag:Unit) w=>Ld tP n3 (fun ah w=>Ld tS (n4.add 0) (fun ai w=>CallF Tryz.prog 110 [.pointer ah,ai.v] [] (fun aj w=>ad () w) w) w) w) (fun ak=>Ld tP n3 (fun al w=>LdF al 0 tF (fun am w=>Ld tP n3 (fun an w=>LdF an 3 tS (fun ao w=>(0<=(0:Int)/\(0:Int)<(ao.n:Int))/\(∃ap,ao.a=some ap/\Ld tS ((ap.add (0*4)).add 0) (fun aq w=>Ld tS (n4.add 0) (fun ar w=>CallV Tryz.prog (FV.enc am) [aq.v,ar.v] [ti64] (fun(au:Int) w=>(if(decide (au>0))=true then False else(if(au==0)=true then Ld tP n3 (fun av w=>Ld tP n3 (fun ax w=> ∃ay,ax=some ay/\Ld tS (ay.add 3) (fun az w=>Ld (.agg [.sl,.sl,.sl,.int .i8]) n4 (fun(b:Sl×Sl×Sl×Int) w=>NewS [b.1.v,b.2.1.v,b.2.2.1.v,.int .i8 b.2.2.2] 113 1 (fun b0 w=>LdAt tS (ay.add 3) az w/\LdAt tP n3 ax w/\LdAt tP n3 av w/\AppP si193 az b0 (fun b1 w=>LdAt tP n3 av w/\StF av 3 (b1.v) (fun w=>K () w) w) w) w) w) w) w) w.drew else ak () w))) w) w) w)) w) w) w) w.drew)else ad () w)) w) w)) (fun b2=>b2 () w))) w) w) w) w) w.drew) (fun b3=>Ld tP n3 (fun b4 w=>LdF b4 8 tS (fun b5 w=>(if(!(b5.a).isNone)=true then Ld tP n3 (fun b6 w=>LdF b6 0 tF (fun b7 w=>Ld tS (n4.add 0) (fun b8 w=>Ld tP n3 (fun b9 w=>LdF b9 8 tS (fun ba w=>CallV Tryz.prog (FV.enc b7) [b8.v,ba.v] [ti64] (fun(bb:Int) w=>(if(decide (bb<0))=true then False else b3 () w)) w) w) w) w) w) w.drew else b3 () w)) w) w)) (fun bc=>Ld tP n3 (fun bd w=>LdF bd 9 tB (fun(be:Bool) w=>(if be=true then False else Ld ti8 (n4.add 3) (fun(bf:Int) w=>(if(bf !=0)=true then False else bc () w)) w)) w) w)) w) w
theorem call73 {f1 s2 K w}(h:F73 f1 s2 K w):CallF Tryz.prog 73 [.pointer f1,.agg #[s2.1.v,s2.2.1.v,s2.2.2.1.v,.int .i8 s2.2.2.2]] [] K w:=ctr Tryz.func73 A73 (by kernel_rfl) (by kernel_rfl) h
def A74 :=au Tryz.f74 [(1,[])] []
def F74 (f1:Option Addr)(K:Unit->WP)(w:World):Prop:=Tr.Join (fun(s2:Unit) w=>LdF f1 3 tS (fun a0 w=>CallF Tryz.prog 111 [.pointer f1,a0.v,.slice none 0 0] [] (fun r6 w=>StF f1 9 (.bool true) (fun w=>K () w) w) w) w) (fun a1=>LdF f1 9 tB (fun(a2:Bool) w=>(if a2=true then False else a1 () w)) w)
theorem call74 {f1 K w}(h:F74 f1 K w):CallF Tryz.prog 74 [.pointer f1] [] K w:=ctr Tryz.func74 A74 (by kernel_rfl) (by kernel_rfl) h
def A75 :=au Tryz.f75 [] []
def F75 (b1:Option Addr)(key2:Sl)(x3:Option Addr)(K:IV->WP)(w:World):Prop:=CallF Tryz.prog 112 [.pointer b1,.int .i64 (key2.n:Int)] [tP] (fun r4 w=>LdF r4 1 tS (fun a w=>CopyP si87 a key2 (fun(c7:Int) w=> ∃p8,b1=some p8/\Ld tP ((p8.add 0).add 13) (fun a0 w=>(if(!(a0).isNone)=true then∃a1,b1=some a1/\Ld tP ((a1.add 0).add 13) (fun a2 w=>LdF r4 3 tu32 (fun(a3:Int) w=>CallF Tryz.prog 113 [.pointer a2,.int .u32 a3] [tI] (fun a4 w=>IsI (IV.enc a4)/\(if(!(isNilI (IV.enc a4)))=true then decI (IV.enc a4) (fun a5=>K a5 w)else decI .nilIface (fun a6=>K a6 w))) w) w) w.drew else decI .nilIface (fun a7=>K a7 w))) w) w) w) w
theorem call75 {b1 key2 x3 K w}(h:F75 b1 key2 x3 K w):CallF Tryz.prog 75 [.pointer b1,key2.v,.pointer x3] [tI] K w:=ctr Tryz.func75 A75 (by kernel_rfl) (by kernel_rfl) h
def A76 :=au Tryz.f76 [] []
def F76 (b1:Option Addr)(key2:Sl)(value3:Sl)(x4:Option Addr)(K:IV->WP)(w:World):Prop:=CallF Tryz.prog 114 [.pointer b1,.int .i64 (key2.n:Int),.int .i64 (value3.n:Int)] [tP] (fun r5 w=>LdF r5 1 tS (fun a w=>CopyP si87 a key2 (fun(c8:Int) w=>LdF r5 2 tS (fun a0 w=>CopyP si87 a0 value3 (fun(a1:Int) w=> ∃a2,b1=some a2/\Ld tP ((a2.add 0).add 13) (fun a3 w=>(if(!(a3).isNone)=true then∃a4,b1=some a4/\Ld tP ((a4.add 0).add 13) (fun a5 w=>LdF r5 3 tu32 (fun(a6:Int) w=>CallF Tryz.prog 113 [.pointer a5,.int .u32 a6] [tI] (fun a7 w=>IsI (IV.enc a7)/\(if(!(isNilI (IV.enc a7)))=true then decI (IV.enc a7) (fun a8=>K a8 w)else decI .nilIface (fun a9=>K a9 w))) w) w) w.drew else decI .nilIface (fun aa=>K aa w))) w) w) w) w) w) w
theorem call76 {b1 key2 value3 x4 K w}(h:F76 b1 key2 value3 x4 K w):CallF Tryz.prog 76 [.pointer b1,key2.v,value3.v,.pointer x4] [tI] K w:=ctr Tryz.func76 A76 (by kernel_rfl) (by kernel_rfl) h
def A77 :=au Tryz.f77 [] []
def F77 (b1:Option Addr)(key2:Sl)(value3:Sl)(x4:Option Addr)(K:IV->WP)(w:World):Prop:=CallF Tryz.prog 115 [.pointer b1,.int .i64 (key2.n:Int),.int .i64 (value3.n:Int)] [tP] (fun r5 w=>LdF r5 1 tS (fun a w=>CopyP si87 a key2 (fun(c8:Int) w=>LdF r5 2 tS (fun a0 w=>CopyP si87 a0 value3 (fun(a1:Int) w=> ∃a2,b1=some a2/\Ld tP ((a2.add 0).add 13) (fun a3 w=>(if(!(a3).isNone)=true then∃a4,b1=some a4/\Ld tP ((a4.add 0).add 13) (fun a5 w=>LdF r5 3 tu32 (fun(a6:Int) w=>CallF Tryz.prog 113 [.pointer a5,.int .u32 a6] [tI] (fun a7 w=>IsI (IV.enc a7)/\(if(!(isNilI (IV.enc a7)))=true then decI (IV.enc a7) (fun a8=>K a8 w)else decI .nilIface (fun a9=>K a9 w))) w) w) w.drew else decI .nilIface (fun aa=>K aa w))) w) w) w) w) w) w
theorem call77 {b1 key2 value3 x4 K w}(h:F77 b1 key2 value3 x4 K w):CallF Tryz.prog 77 [.pointer b1,key2.v,value3.v,.pointer x4] [tI] K w:=ctr Tryz.func77 A77 (by kernel_rfl) (by kernel_rfl) h
def A79 :=au Tryz.f79 [] []
def F79 (b1:Option Addr)(key2:Sl)(x3:Option Addr)(K:IV->WP)(w:World):Prop:=CallF Tryz.prog 117 [.pointer b1,.int .i64 (key2.n:Int)] [tP] (fun r4 w=>LdF r4 1 tS (fun a w=>CopyP si87 a key2 (fun(c7:Int) w=> ∃p8,b1=some p8/\Ld tP ((p8.add 0).add 13) (fun a0 w=>(if(!(a0).isNone)=true then∃a1,b1=some a1/\Ld tP ((a1.add 0).add 13) (fun a2 w=>LdF r4 3 tu32 (fun(a3:Int) w=>CallF Tryz.prog 113 [.pointer a2,.int .u32 a3] [tI] (fun a4 w=>IsI (IV.enc a4)/\(if(!(isNilI (IV.enc a4)))=true then decI (IV.enc a4) (fun a5=>K a5 w)else decI .nilIface (fun a6=>K a6 w))) w) w) w.drew else decI .nilIface (fun a7=>K a7 w))) w) w) w) w
theorem call79 {b1 key2 x3 K w}(h:F79 b1 key2 x3 K w):CallF Tryz.prog 79 [.pointer b1,key2.v,.pointer x3] [tI] K w:=ctr Tryz.func79 A79 (by kernel_rfl) (by kernel_rfl) h
def A80 :=au Tryz.f80 [] []
def F80 (b1:Option Addr)(start2:Sl)(end_3:Sl)(x4:Option Addr)(K:IV->WP)(w:World):Prop:=CallF Tryz.prog 118 [.pointer b1,.int .i64 (start2.n:Int),.int .i64 (end_3.n:Int)] [tP] (fun r5 w=>LdF r5 1 tS (fun a w=>CopyP si87 a start2 (fun(c8:Int) w=>LdF r5 2 tS (fun a0 w=>CopyP si87 a0 end_3 (fun(a1:Int) w=>LdF r5 0 tP (fun a2 w=>(if(!(a2).isNone)=true then LdF r5 0 tP (fun a3 w=>LdF r5 3 tu32 (fun(a4:Int) w=>CallF Tryz.prog 113 [.pointer a3,.int .u32 a4] [tI] (fun a5 w=>IsI (IV.enc a5)/\(if(!(isNilI (IV.enc a5)))=true then decI (IV.enc a5) (fun a6=>K a6 w)else decI .nilIface (fun a7=>K a7 w))) w) w) w.drew else decI .nilIface (fun a8=>K a8 w))) w) w) w) w) w) w
theorem call80 {b1 start2 end_3 x4 K w}(h:F80 b1 start2 end_3 x4 K w):CallF Tryz.prog 80 [.pointer b1,start2.v,end_3.v,.pointer x4] [tI] K w:=ctr Tryz.func80 A80 (by kernel_rfl) (by kernel_rfl) h
def A81 :=au Tryz.f81 [] []
def F81 (b1:Option Addr)(start2:Sl)(end_3:Sl)(x4:Option Addr)(K:IV->WP)(w:World):Prop:=CallF Tryz.prog 119 [.pointer b1,.int .i64 (start2.n:Int),.int .i64 (end_3.n:Int)] [tP] (fun r5 w=>LdF r5 1 tS (fun a w=>CopyP si87 a start2 (fun(c8:Int) w=>LdF r5 2 tS (fun a0 w=>CopyP si87 a0 end_3 (fun(a1:Int) w=>LdF r5 0 tP (fun a2 w=>(if(!(a2).isNone)=true then LdF r5 0 tP (fun a3 w=>LdF r5 3 tu32 (fun(a4:Int) w=>CallF Tryz.prog 113 [.pointer a3,.int .u32 a4] [tI] (fun a5 w=>IsI (IV.enc a5)/\(if(!(isNilI (IV.enc a5)))=true then decI (IV.enc a5) (fun a6=>K a6 w)else decI .nilIface (fun a7=>K a7 w))) w) w) w.drew else decI .nilIface (fun a8=>K a8 w))) w) w) w) w) w) w
theorem call81 {b1 start2 end_3 x4 K w}(h:F81 b1 start2 end_3 x4 K w):CallF Tryz.prog 81 [.pointer b1,start2.v,end_3.v,.pointer x4] [tI] K w:=ctr Tryz.func81 A81 (by kernel_rfl) (by kernel_rfl) h
def A82 :=au Tryz.f82 [(13,[])] []
def F82 (b1:Option Addr)(start2:Sl)(end_3:Sl)(suffix4:Sl)(x5:Option Addr)(K:IV->WP)(w:World):Prop:=NewP [.slice none 0 0] 295 (fun n6 w=>StL n6 [suffix4.v] (fun w=>CallF Tryz.prog 120 [end_3.v,.slice (some n6) 1 1] [ti64] (fun(r7:Int) w=>CallF Tryz.prog 121 [.pointer b1,.int .i64 (start2.n:Int),.int .i64 r7] [tP] (fun r8 w=>LdF r8 1 tS (fun a0 w=>CopyP si87 a0 start2 (fun(a1:Int) w=>LdF r8 2 tS (fun a2 w=>CallF Tryz.prog 122 [a2.v,end_3.v,.slice (some n6) 1 1] [ti64] (fun(a3:Int) w=>Tr.Join (fun(a4:Unit) w=>LdF r8 0 tP (fun a5 w=>(if(!(a5).isNone)=true then LdF r8 0 tP (fun a6 w=>LdF r8 3 tu32 (fun(a7:Int) w=>CallF Tryz.prog 113 [.pointer a6,.int .u32 a7] [tI] (fun a8 w=>IsI (IV.enc a8)/\(if(!(isNilI (IV.enc a8)))=true then decI (IV.enc a8) (fun a9=>K a9 w)else decI .nilIface (fun aa=>K aa w))) w) w) w.drew else decI .nilIface (fun ab=>K ab w))) w) (fun ac=>(if(a3 !=r7)=true then False else ac () w))) w) w.drew) w) w) w) w) w) w
theorem call82 {b1 start2 end_3 suffix4 x5 K w}(h:F82 b1 start2 end_3 suffix4 x5 K w):CallF Tryz.prog 82 [.pointer b1,start2.v,end_3.v,suffix4.v,.pointer x5] [tI] K w:=ctr Tryz.func82 A82 (by kernel_rfl) (by kernel_rfl) h
def A83 :=au Tryz.f83 [(13,[])] []
def F83 (b1:Option Addr)(start2:Sl)(end_3:Sl)(suffix4:Sl)(value5:Sl)(x6:Option Addr)(K:IV->WP)(w:World):Prop:=NewP [.slice none 0 0,.slice none 0 0] 298 (fun n7 w=>StL n7 [suffix4.v,value5.v] (fun w=>CallF Tryz.prog 123 [end_3.v,.slice (some n7) 1 1] [ti64] (fun(r8:Int) w=>CallF Tryz.prog 124 [.pointer b1,.int .i64 (start2.n:Int),.int .i64 r8] [tP] (fun r9 w=>LdF r9 1 tS (fun a0 w=>CopyP si87 a0 start2 (fun(a1:Int) w=>LdF r9 2 tS (fun a2 w=>CallF Tryz.prog 125 [a2.v,end_3.v,.slice (some n7) 1 1] [ti64] (fun(a3:Int) w=>Tr.Join (fun(a4:Unit) w=>LdF r9 0 tP (fun a5 w=>(if(!(a5).isNone)=true then LdF r9 0 tP (fun a6 w=>LdF r9 3 tu32 (fun(a7:Int) w=>CallF Tryz.prog 113 [.pointer a6,.int .u32 a7] [tI] (fun a8 w=>IsI (IV.enc a8)/\(if(!(isNilI (IV.enc a8)))=true then decI (IV.enc a8) (fun a9=>K a9 w)else decI .nilIface (fun aa=>K aa w))) w) w) w.drew else decI .nilIface (fun ab=>K ab w))) w) (fun ac=>(if(a3 !=r8)=true then False else ac () w))) w) w.drew) w) w) w) w) w) w
theorem call83 {b1 start2 end_3 suffix4 value5 x6 K w}(h:F83 b1 start2 end_3 suffix4 value5 x6 K w):CallF Tryz.prog 83 [.pointer b1,start2.v,end_3.v,suffix4.v,value5.v,.pointer x6] [tI] K w:=ctr Tryz.func83 A83 (by kernel_rfl) (by kernel_rfl) h
def A84 :=au Tryz.f84 [] []
def F84 (b1:Option Addr)(key2:Sl)(deletedValueSize3:Int)(x4:Option Addr)(K:IV->WP)(w:World):Prop:=CallF Tryz.prog 126 [.pointer b1,.int .i64 (key2.n:Int),.int .u32 deletedValueSize3] [tP] (fun r5 w=> ∃p6,b1=some p6/\Ld tS (((p6.add 0).add 9).add 1) (fun a w=>CopyP si87 a key2 (fun(c8:Int) w=> ∃p9,b1=some p9/\Ld tP ((p9.add 0).add 13) (fun a0 w=>(if(!(a0).isNone)=true then∃a1,b1=some a1/\Ld tP ((a1.add 0).add 13) (fun a2 w=>LdF r5 3 tu32 (fun(a3:Int) w=>CallF Tryz.prog 113 [.pointer a2,.int .u32 a3] [tI] (fun a4 w=>IsI (IV.enc a4)/\(if(!(isNilI (IV.enc a4)))=true then decI (IV.enc a4) (fun a5=>K a5 w)else decI .nilIface (fun a6=>K a6 w))) w) w) w.drew else decI .nilIface (fun a7=>K a7 w))) w) w) w) w
theorem call84 {b1 key2 deletedValueSize3 x4 K w}(h:F84 b1 key2 deletedValueSize3 x4 K w):CallF Tryz.prog 84 [.pointer b1,key2.v,.int .u32 deletedValueSize3,.pointer x4] [tI] K w:=ctr Tryz.func84 A84 (by kernel_rfl) (by kernel_rfl) h
def A85 :=au Tryz.f85 [] []
def F85 (b1:Option Addr)(K:Int->WP)(w:World):Prop:= ∃p2,b1=some p2/\Ld tu64 ((p2.add 0).add 6) (fun(a:Int) w=>(if(decide (a>4294967295))=true then Ld tI (⟨2,0,none⟩) (fun x4 w=>False) w else∃p5,b1=some p5/\Ld tu64 ((p5.add 0).add 6) (fun(a0:Int) w=>K (u32.wrap a0) w) w)) w
theorem call85 {b1 K w}(h:F85 b1 K w):CallF Tryz.prog 85 [.pointer b1] [tu32] K w:=ctr Tryz.func85 A85 (by kernel_rfl) (by kernel_rfl) h
def A86 :=au Tryz.f86 [(3,[])] []
def F86 (b1:Option Addr)(K:Int->WP)(w:World):Prop:=Tr.Join (fun(s2:Unit) w=>Ld (.agg []) (⟨1,0,none⟩) (fun x4 w=>CallF Tryz.prog 128 [.pointer b1] [tS] (fun r5 w=>LdAt (.agg []) (⟨1,0,none⟩) x4 w/\CallF Tryz.prog 95 [.agg #[],r5.v] [tu64] (fun(r6:Int) w=>K r6 w) w) w) w.drew) (fun a0=> ∃p7,b1=some p7/\Ld tS ((p7.add 0).add 0) (fun a1 w=>(if((a1.n:Int)==0)=true then CallF Tryz.prog 127 [.pointer b1,.int .i64 12] [] (fun r9 w=>a0 () w) w else a0 () w)) w)
theorem call86 {b1 K w}(h:F86 b1 K w):CallF Tryz.prog 86 [.pointer b1] [tu64] K w:=ctr Tryz.func86 A86 (by kernel_rfl) (by kernel_rfl) h
def A87 :=au Tryz.f87 [(35,[(37,tB)])] []
def F87 (r1:Option Addr)(K:(Int×Sl×Sl×Bool×IV)->WP)(w:World):Prop:= ∃p2,r1=some p2/\Ld tS p2 (fun x3 w=>(if((x3.n:Int)==0)=true then decI .nilIface (fun i4=>K ((0:Int),⟨none,0,0⟩,⟨none,0,0⟩,false,i4) w)else∃p5,r1=some p5/\Ld tS p5 (fun x6 w=>(0<=(0:Int)/\(0:Int)<(x6.n:Int))/\(∃e7,x6.a=some e7/\Ld tu8 (e7.add (0*1)) (fun(x8:Int) w=>(if(decide (x8>23))=true then Ld tI (⟨2,0,none⟩) (fun x9 w=>CallF Tryz.prog 129 [(IV.enc x9),.string (⟨#[105,110,118,97,108,105,100,32,107,101,121,32,107,105,110,100,32,48,120,37,120]⟩),.slice none 0 0] [tI] (fun a0 w=>decI (IV.enc a0) (fun a1=>K ((0:Int),⟨none,0,0⟩,⟨none,0,0⟩,false,a1) w)) w) w else∃a2,r1=some a2/\Ld tS a2 (fun a3 w=>(0<=(1:Int)/\(1:Int)<=(a3.n:Int))/\CallF Tryz.prog 130 [.slice ((sub a3.a 1 1 a3.n a3.c).a) (a3.n-1) (a3.c-1)] [tS,tS,tB] (fun(a4:Sl×Sl×Bool) w=> ∃a5,r1=some a5/\St a5 (a4.1.v) (fun w=>(if(!a4.2.2)=true then Ld tI (⟨2,0,none⟩) (fun a6 w=>CallF Tryz.prog 129 [(IV.enc a6),.string (⟨#[100,101,99,111,100,105,110,103,32,117,115,101,114,32,107,101,121]⟩),.slice none 0 0] [tI] (fun a7 w=>decI (IV.enc a7) (fun a8=>K ((0:Int),⟨none,0,0⟩,⟨none,0,0⟩,false,a8) w)) w) w else Tr.Join (fun(a9:Bool) w=>(if a9=true then∃aa,r1=some aa/\Ld tS aa (fun ab w=>CallF Tryz.prog 130 [ab.v] [tS,tS,tB] (fun(ac:Sl×Sl×Bool) w=> ∃ad,r1=some ad/\St ad (ac.1.v) (fun w=>(if(!ac.2.2)=true then Ld tI (⟨2,0,none⟩) (fun ae w=>CallF Tryz.prog 129 [(IV.enc ae),.string (⟨#[100,101,99,111,100,105,110,103,32,37,115,32,118,97,108,117,101]⟩),.slice none 0 0] [tI] (fun af w=>decI (IV.enc af) (fun ag=>K ((0:Int),⟨none,0,0⟩,⟨none,0,0⟩,false,ag) w)) w) w else decI .nilIface (fun ah=>K (x8,a4.2.1,ac.2.1,true,ah) w))) w) w) w else decI .nilIface (fun ai=>K (x8,a4.2.1,⟨none,0,0⟩,true,ai) w))) (fun aj=>(if(x8==1)=true then aj (x8==1) w else(if(x8==2)=true then aj (x8==2) w else(if(x8==15)=true then aj (x8==15) w else(if(x8==21)=true then aj (x8==21) w else(if(x8==20)=true then aj (x8==20) w else(if(x8==19)=true then aj (x8==19) w else aj (x8==23) w))))))))) w) w) w)) w)) w)) w
theorem call87 {r1 K w}(h:F87 r1 K w):CallF Tryz.prog 87 [.pointer r1] [tu8,tS,tS,tB,tI] K w:=ctr Tryz.func87 A87 (by kernel_rfl) (by kernel_rfl) h
def A88 :=au Tryz.f88 [] []
def F88 (data1:IV)(K:Unit->WP)(w:World):Prop:=CallI Tryz.prog (IV.enc data1) "Len" [] [ti64] (fun(r2:Int) w=>(if(decide (r2<=(1:Int)))=true then K () w else CallF Tryz.prog 131 [.int .u64 (u64.wrap r2)] [ti64] (fun(r3:Int) w=>CallF Tryz.prog 132 [(IV.enc data1),.int .i64 0,.int .i64 r2,.int .i64 r3] [] (fun r4 w=>K () w) w) w)) w
theorem call88 {data1 K w}(h:F88 data1 K w):CallF Tryz.prog 88 [(IV.enc data1)] [] K w:=ctr Tryz.func88 A88 (by kernel_rfl) (by kernel_rfl) h
def A89 :=au Tryz.f89 [] []
def F89 (s1:Sl×Sl×Sl×Int)(a2:Addr)(K:Unit->WP)(w:World):Prop:=NewP [s1.1.v,s1.2.1.v,s1.2.2.1.v,.int .i8 s1.2.2.2] 113 (fun n3 w=>Ld tP a2 (fun x4 w=>Ld tP a2 (fun x5 w=> ∃p6,x5=some p6/\Ld tS (p6.add 5) (fun a0 w=>Ld (.agg [.sl,.sl,.sl,.int .i8]) n3 (fun(x8:Sl×Sl×Sl×Int) w=>NewS [x8.1.v,x8.2.1.v,x8.2.2.1.v,.int .i8 x8.2.2.2] 113 1 (fun l9 w=>LdAt tS (p6.add 5) a0 w/\LdAt tP a2 x5 w/\LdAt tP a2 x4 w/\AppP si193 a0 l9 (fun a1 w=>LdAt tP a2 x4 w/\StF x4 5 (a1.v) (fun w=>K () w) w) w) w) w) w) w) w.drew) w
theorem call89 {s1 a2 K w}(h:F89 s1 a2 K w):CallF Tryz.prog 89 [.agg #[s1.1.v,s1.2.1.v,s1.2.2.1.v,.int .i8 s1.2.2.2],.pointer (some a2)] [] K w:=ctr Tryz.func89 A89 (by kernel_rfl) (by kernel_rfl) h
def A90 :=au Tryz.f90 [] [(6,[(6,tS),(7,tP),(8,tA)])]
def B90 (frag1:Option Addr)(it2:IV)(K:Unit->WP)(next8:(Sl×Option Addr×Addr)->WP)(s7:Sl×Option Addr×Addr)(nn:Addr)(rr:Sl×Sl×Sl×Int)(w:World):Prop:=StL nn [rr.1.v,rr.2.1.v,rr.2.2.1.v,.int .i8 rr.2.2.2] (fun w=>Ld tS (nn.add 2) (fun a0 w=>Ld tS (nn.add 2) (fun a1 w=>(0<=(a1.n:Int)/\(a1.n:Int)<=(a0.n:Int))/\Ld tS (nn.add 2) (fun a2 w=>Ld tS (nn.add 2) (fun a3 w=>Ld tS (nn.add 2) (fun a4 w=>(0<=(a3.n:Int)/\(a3.n:Int)<=(a4.n:Int)/\(a4.n:Int)<=(a2.c:Int))/\St (nn.add 2) (.slice a2.a a3.n a4.n) (fun w=>Ld (.agg [.sl,.sl,.sl,.int .i8]) nn (fun(a5:Sl×Sl×Sl×Int) w=>CallF Tryz.prog 73 [.pointer frag1,.agg #[a5.1.v,a5.2.1.v,a5.2.2.1.v,.int .i8 a5.2.2.2]] [] (fun a6 w=>Ld (.agg [.sl,.ptr]) s7.2.2 (fun a7 w=>NewP [.slice none 0 0,.pointer none] 90 (fun a8 w=>StL a8 [a7.1.v,.pointer a7.2] (fun w=>CallI Tryz.prog (IV.enc it2) "Next" [] [tP,(.agg [.sl,.ptr])] (fun a9 w=>StL a8 [a9.2.1.v,.pointer a9.2.2] (fun w=>next8 (⟨(sub a0.a 3 a1.n a0.n a0.c).a,(a0.n-a1.n),(a0.c-a1.n)⟩,a9.1,a8) w) w) w) w) w) w) w) w) w) w) w) w) w) w) w
def F90 (frag1:Option Addr)(it2:IV)(count3:Int)(K:Unit->WP)(w:World):Prop:=MakeP si109 (0:Int) count3 (fun m4 w=>CallI Tryz.prog (IV.enc it2) "First" [] [tP,(.agg [.sl,.ptr])] (fun r5 w=>NewP [.slice none 0 0,.pointer none] 90 (fun n6 w=>StL n6 [r5.2.1.v,.pointer r5.2.2] (fun w=>Tr.Loop (fun(a0:(Sl×Option Addr×Addr)->WP) (s7:Sl×Option Addr×Addr) w=>(if(!(s7.2.1).isNone)=true then∃p9,s7.2.1=some p9/\Ld (.agg [.sl,.int .u64]) p9 (fun(a1:Sl×Int) w=>(CallF Tryz.prog 27 [.pointer (some s7.2.2)] [tS] (fun a2 w=>LdAt (.agg [.sl,.int .u64]) p9 a1 w/\(CallF Tryz.prog 133 [.agg #[a1.1.v,.int .u64 a1.2],a2.v,s7.1.v] [(.agg [.sl,.sl,.sl,.int .i8])] (fun(a3:Sl×Sl×Sl×Int) w=>NewP [.slice none 0 0,.slice none 0 0,.slice none 0 0,.int .i8 0] 113 (fun a4 w=>B90 frag1 it2 K a0 s7 a4 a3 w) w) w)/\(NewP [.slice none 0 0,.slice none 0 0,.slice none 0 0,.int .i8 0] 113 (fun a5 w=>LdAt (.agg [.sl,.int .u64]) p9 a1 w/\CallF Tryz.prog 133 [.agg #[a1.1.v,.int .u64 a1.2],a2.v,s7.1.v] [(.agg [.sl,.sl,.sl,.int .i8])] (fun(a6:Sl×Sl×Sl×Int) w=>B90 frag1 it2 K a0 s7 a5 a6 w) w) w)) w)/\(NewP [.slice none 0 0,.slice none 0 0,.slice none 0 0,.int .i8 0] 113 (fun a7 w=>LdAt (.agg [.sl,.int .u64]) p9 a1 w/\CallF Tryz.prog 27 [.pointer (some s7.2.2)] [tS] (fun a8 w=>LdAt (.agg [.sl,.int .u64]) p9 a1 w/\CallF Tryz.prog 133 [.agg #[a1.1.v,.int .u64 a1.2],a8.v,s7.1.v] [(.agg [.sl,.sl,.sl,.int .i8])] (fun(a9:Sl×Sl×Sl×Int) w=>B90 frag1 it2 K a0 s7 a7 a9 w) w) w) w)) w.drew else CallF Tryz.prog 74 [.pointer frag1] [] (fun aa w=>K () w) w)) (m4,r5.1,n6) w) w) w) w) w
theorem call90 {frag1 it2 count3 K w}(h:F90 frag1 it2 count3 K w):CallF Tryz.prog 90 [.pointer frag1,(IV.enc it2),.int .i64 count3] [] K w:=ctr Tryz.func90 A90 (by kernel_rfl) (by kernel_rfl) h
def A91 :=au Tryz.f91 [] []
def F91 (s1:Sl×Sl×Sl×Int)(a2:Addr)(K:Unit->WP)(w:World):Prop:=NewP [s1.1.v,s1.2.1.v,s1.2.2.1.v,.int .i8 s1.2.2.2] 113 (fun n3 w=>Ld tP a2 (fun x4 w=>Ld tP a2 (fun x5 w=> ∃p6,x5=some p6/\Ld tS (p6.add 6) (fun a0 w=>Ld (.agg [.sl,.sl,.sl,.int .i8]) n3 (fun(x8:Sl×Sl×Sl×Int) w=>NewS [x8.1.v,x8.2.1.v,x8.2.2.1.v,.int .i8 x8.2.2.2] 113 1 (fun l9 w=>LdAt tS (p6.add 6) a0 w/\LdAt tP a2 x5 w/\LdAt tP a2 x4 w/\AppP si193 a0 l9 (fun a1 w=>LdAt tP a2 x4 w/\StF x4 6 (a1.v) (fun w=>K () w) w) w) w) w) w) w) w.drew) w
theorem call91 {s1 a2 K w}(h:F91 s1 a2 K w):CallF Tryz.prog 91 [.agg #[s1.1.v,s1.2.1.v,s1.2.2.1.v,.int .i8 s1.2.2.2],.pointer (some a2)] [] K w:=ctr Tryz.func91 A91 (by kernel_rfl) (by kernel_rfl) h
def A92 :=au Tryz.f92 [] [(8,[(7,tS),(8,tP),(9,tA)])]
def B92 (frag1:Option Addr)(it2:IV)(K:IV->WP)(next8:(Sl×Option Addr×Addr)->WP)(s7:Sl×Option Addr×Addr)(nn:Addr)(rr:(Sl×Sl×Sl×Int)×IV)(w:World):Prop:=StL nn [rr.1.1.v,rr.1.2.1.v,rr.1.2.2.1.v,.int .i8 rr.1.2.2.2] (fun w=>IsI (IV.enc rr.2)/\(if(!(isNilI (IV.enc rr.2)))=true then decI (IV.enc rr.2) (fun a0=>K a0 w)else Ld tS (nn.add 2) (fun a1 w=>Ld tS (nn.add 2) (fun a2 w=>(0<=(a2.n:Int)/\(a2.n:Int)<=(a1.n:Int))/\Ld tS (nn.add 2) (fun a3 w=>Ld tS (nn.add 2) (fun a4 w=>Ld tS (nn.add 2) (fun a5 w=>(0<=(a4.n:Int)/\(a4.n:Int)<=(a5.n:Int)/\(a5.n:Int)<=(a3.c:Int))/\St (nn.add 2) (.slice a3.a a4.n a5.n) (fun w=>Ld (.agg [.sl,.sl,.sl,.int .i8]) nn (fun(a6:Sl×Sl×Sl×Int) w=>CallF Tryz.prog 73 [.pointer frag1,.agg #[a6.1.v,a6.2.1.v,a6.2.2.1.v,.int .i8 a6.2.2.2]] [] (fun a7 w=>Ld (.agg [.sl,.ptr]) s7.2.2 (fun a8 w=>NewP [.slice none 0 0,.pointer none] 90 (fun a9 w=>StL a9 [a8.1.v,.pointer a8.2] (fun w=>CallI Tryz.prog (IV.enc it2) "Next" [] [tP,(.agg [.sl,.ptr])] (fun aa w=>StL a9 [aa.2.1.v,.pointer aa.2.2] (fun w=>next8 (⟨(sub a1.a 3 a2.n a1.n a1.c).a,(a1.n-a2.n),(a1.c-a2.n)⟩,aa.1,a9) w) w) w) w) w) w) w) w) w) w) w) w) w) w)) w
def F92 (frag1:Option Addr)(it2:IV)(count3:Int)(K:IV->WP)(w:World):Prop:=MakeP si109 (0:Int) count3 (fun m4 w=>CallI Tryz.prog (IV.enc it2) "First" [] [tP,(.agg [.sl,.ptr])] (fun r5 w=>NewP [.slice none 0 0,.pointer none] 90 (fun n6 w=>StL n6 [r5.2.1.v,.pointer r5.2.2] (fun w=>Tr.Loop (fun(a0:(Sl×Option Addr×Addr)->WP) (s7:Sl×Option Addr×Addr) w=>(if(!(s7.2.1).isNone)=true then∃p9,s7.2.1=some p9/\Ld (.agg [.sl,.int .u64]) p9 (fun(a1:Sl×Int) w=>(CallF Tryz.prog 27 [.pointer (some s7.2.2)] [tS] (fun a2 w=>LdAt (.agg [.sl,.int .u64]) p9 a1 w/\(CallF Tryz.prog 70 [.agg #[a1.1.v,.int .u64 a1.2],a2.v,s7.1.v] [(.agg [.sl,.sl,.sl,.int .i8]),tI] (fun(a3:(Sl×Sl×Sl×Int)×IV) w=>NewP [.slice none 0 0,.slice none 0 0,.slice none 0 0,.int .i8 0] 113 (fun a4 w=>B92 frag1 it2 K a0 s7 a4 a3 w) w) w)/\(NewP [.slice none 0 0,.slice none 0 0,.slice none 0 0,.int .i8 0] 113 (fun a5 w=>LdAt (.agg [.sl,.int .u64]) p9 a1 w/\CallF Tryz.prog 70 [.agg #[a1.1.v,.int .u64 a1.2],a2.v,s7.1.v] [(.agg [.sl,.sl,.sl,.int .i8]),tI] (fun(a6:(Sl×Sl×Sl×Int)×IV) w=>B92 frag1 it2 K a0 s7 a5 a6 w) w) w)) w)/\(NewP [.slice none 0 0,.slice none 0 0,.slice none 0 0,.int .i8 0] 113 (fun a7 w=>LdAt (.agg [.sl,.int .u64]) p9 a1 w/\CallF Tryz.prog 27 [.pointer (some s7.2.2)] [tS] (fun a8 w=>LdAt (.agg [.sl,.int .u64]) p9 a1 w/\CallF Tryz.prog 70 [.agg #[a1.1.v,.int .u64 a1.2],a8.v,s7.1.v] [(.agg [.sl,.sl,.sl,.int .i8]),tI] (fun(a9:(Sl×Sl×Sl×Int)×IV) w=>B92 frag1 it2 K a0 s7 a7 a9 w) w) w) w)) w.drew else CallF Tryz.prog 74 [.pointer frag1] [] (fun aa w=>decI .nilIface (fun ab=>K ab w)) w)) (m4,r5.1,n6) w) w) w) w) w
theorem call92 {frag1 it2 count3 K w}(h:F92 frag1 it2 count3 K w):CallF Tryz.prog 92 [.pointer frag1,(IV.enc it2),.int .i64 count3] [tI] K w:=ctr Tryz.func92 A92 (by kernel_rfl) (by kernel_rfl) h
def A95 :=au Tryz.f95 [] []
def F95 (a1:Unit)(b2:Sl)(K:Int->WP)(w:World):Prop:=NewP [] 263 (fun n3 w=>(0<=(7:Int)/\(7:Int)<(b2.n:Int))/\(∃e4,b2.a=some e4/\Ld tu8 (e4.add (7*1)) (fun(x5:Int) w=>(0<=(0:Int)/\(0:Int)<(b2.n:Int))/\(∃e6,b2.a=some e6/\Ld tu8 (e6.add (0*1)) (fun(x7:Int) w=>(0<=(1:Int)/\(1:Int)<(b2.n:Int))/\(∃e8,b2.a=some e8/\Ld tu8 (e8.add (1*1)) (fun(x9:Int) w=>0<=(8:Int)/\(0<=(2:Int)/\(2:Int)<(b2.n:Int))/\(∃a0,b2.a=some a0/\Ld tu8 (a0.add (2*1)) (fun(a2:Int) w=>0<=(16:Int)/\(0<=(3:Int)/\(3:Int)<(b2.n:Int))/\(∃a3,b2.a=some a3/\Ld tu8 (a3.add (3*1)) (fun(a4:Int) w=>0<=(24:Int)/\(0<=(4:Int)/\(4:Int)<(b2.n:Int))/\(∃a5,b2.a=some a5/\Ld tu8 (a5.add (4*1)) (fun(a6:Int) w=>0<=(32:Int)/\(0<=(5:Int)/\(5:Int)<(b2.n:Int))/\(∃a7,b2.a=some a7/\Ld tu8 (a7.add (5*1)) (fun(a8:Int) w=>0<=(40:Int)/\(0<=(6:Int)/\(6:Int)<(b2.n:Int))/\(∃a9,b2.a=some a9/\Ld tu8 (a9.add (6*1)) (fun(aa:Int) w=>0<=(48:Int)/\(0<=(7:Int)/\(7:Int)<(b2.n:Int))/\(∃ab,b2.a=some ab/\Ld tu8 (ab.add (7*1)) (fun(ac:Int) w=>0<=(56:Int)/\K (u64.wrap (BitVec.ofInt IntKind.u64.bits (u64.wrap (BitVec.ofInt IntKind.u64.bits (u64.wrap (BitVec.ofInt IntKind.u64.bits (u64.wrap (BitVec.ofInt IntKind.u64.bits (u64.wrap (BitVec.ofInt IntKind.u64.bits (u64.wrap (BitVec.ofInt IntKind.u64.bits (u64.wrap (BitVec.ofInt IntKind.u64.bits (u64.wrap x7)|||BitVec.ofInt IntKind.u64.bits (u64.wrap ((u64.wrap x9)*2^(min 8 IntKind.u64.bits)))).toNat)|||BitVec.ofInt IntKind.u64.bits (u64.wrap ((u64.wrap a2)*2^(min 16 IntKind.u64.bits)))).toNat)|||BitVec.ofInt IntKind.u64.bits (u64.wrap ((u64.wrap a4)*2^(min 24 IntKind.u64.bits)))).toNat)|||BitVec.ofInt IntKind.u64.bits (u64.wrap ((u64.wrap a6)*2^(min 32 IntKind.u64.bits)))).toNat)|||BitVec.ofInt IntKind.u64.bits (u64.wrap ((u64.wrap a8)*2^(min 40 IntKind.u64.bits)))).toNat)|||BitVec.ofInt IntKind.u64.bits (u64.wrap ((u64.wrap aa)*2^(min 48 IntKind.u64.bits)))).toNat)|||BitVec.ofInt IntKind.u64.bits (u64.wrap ((u64.wrap ac)*2^(min 56 IntKind.u64.bits)))).toNat) w) w)) w)) w)) w)) w)) w)) w)) w.drew)) w)) w
theorem call95 {a1 b2 K w}(h:F95 a1 b2 K w):CallF Tryz.prog 95 [.agg #[],b2.v] [tu64] K w:=ctr Tryz.func95 A95 (by kernel_rfl) (by kernel_rfl) h
def A96 :=au Tryz.f96 [] []
def F96 (o1:Option Addr)(K:Sl->WP)(w:World):Prop:=(if((o1).isNone)=true then K ⟨none,0,0⟩ w else LdF o1 0 tS (fun a w=>K a w) w)
theorem call96 {o1 K w}(h:F96 o1 K w):CallF Tryz.prog 96 [.pointer o1] [tS] K w:=ctr Tryz.func96 A96 (by kernel_rfl) (by kernel_rfl) h
def A97 :=au Tryz.f97 [] []
def F97 (o1:Option Addr)(K:Sl->WP)(w:World):Prop:=(if((o1).isNone)=true then K ⟨none,0,0⟩ w else LdF o1 1 tS (fun a w=>K a w) w)
theorem call97 {o1 K w}(h:F97 o1 K w):CallF Tryz.prog 97 [.pointer o1] [tS] K w:=ctr Tryz.func97 A97 (by kernel_rfl) (by kernel_rfl) h
def A98 :=au Tryz.f98 [] [(8,[(3,tS),(8,ti64)])]
def F98 (l1:Sl)(K:Sl->WP)(w:World):Prop:=Tr.Loop (fun(a0:(Sl×Int)->WP) (s2:Sl×Int) w=>(if(decide (s2.2<(l1.n:Int)))=true then(0<=s2.2/\s2.2<(l1.n:Int))/\(∃e4,l1.a=some e4/\Ld (.agg [.int .u64,.sl,.sl]) (e4.add (s2.2.toNat*3)) (fun(x5:Int×Sl×Sl) w=>NewP [.int .u64 0,.slice none 0 0,.slice none 0 0] 267 (fun n6 w=>StL n6 [.int .u64 x5.1,x5.2.1.v,x5.2.2.v] (fun w=>Ld tu64 (n6.add 0) (fun(a1:Int) w=>Ld tS (n6.add 1) (fun a2 w=> ∃s9,RdB w a2.a a2.n s9/\Ld tS (n6.add 2) (fun a3 w=> ∃a4,RdB w a3.a a3.n a4/\NewS [.int .u64 a1,.string s9,.string a4] 49 1 (fun a5 w=>AppP si42 s2.1 a5 (fun a6 w=>a0 (a6,(i64.wrap (s2.2+1))) w) w) w) w) w) w) w) w) w)else K s2.1 w)) (⟨none,0,0⟩,(0:Int)) w
theorem call98 {l1 K w}(h:F98 l1 K w):CallF Tryz.prog 98 [l1.v] [tS] K w:=ctr Tryz.func98 A98 (by kernel_rfl) (by kernel_rfl) h
def A99 :=au Tryz.f99 [] []
def F99 (i1:Option Addr)(cmp2:FV)(spans3:Sl)(K:Unit->WP)(w:World):Prop:=Ones [(FV.enc cmp2)]/\ ∃p4,i1=some p4/\StL p4 [(FV.enc cmp2),spans3.v,.int .i64 (-1:Int)] (fun w=>K () w) w
theorem call99 {i1 cmp2 spans3 K w}(h:F99 i1 cmp2 spans3 K w):CallF Tryz.prog 99 [.pointer i1,(FV.enc cmp2),spans3.v] [] K w:=ctr Tryz.func99 A99 (by kernel_rfl) (by kernel_rfl) h
def A100 :=au Tryz.f100 [] []
def F100 (s1:ByteArray)(K:Sl->WP)(w:World):Prop:=(if(s1.toList==ByteArray.empty.toList)=true then K ⟨none,0,0⟩ w else BytesP 5 s1 (fun b2 w=>K b2 w) w)
theorem call100 {s1 K w}(h:F100 s1 K w):CallF Tryz.prog 100 [.string s1] [tS] K w:=ctr Tryz.func100 A100 (by kernel_rfl) (by kernel_rfl) h
def A101 :=au Tryz.f101 [(30,[(5,tB),(6,tu64)]),(31,[(32,tB)]),(34,[])] [(18,[(5,tB),(6,tu64),(16,ti64)])]
def F101 (e1:Option Addr)(s2:Option Addr)(K:IV->WP)(w:World):Prop:=CallF Tryz.prog 134 [.pointer s2] [tB] (fun(r3:Bool) w=>(if r3=true then decI .nilIface (fun i4=>K i4 w)else LdF s2 2 tS (fun a0 w=>Tr.Loop (fun(a1:(Bool×Int×Int)->WP) (s7:Bool×Int×Int) w=>(if(decide (s7.2.2<(a0.n:Int)))=true then Tr.Join (fun(s9:Bool×Int) w=>LdF s2 2 tS (fun a2 w=>(0<=s7.2.2/\s7.2.2<(a2.n:Int))/\(∃a3,a2.a=some a3/\Ld (.agg [.int .u64,.sl,.sl]) (a3.add (s7.2.2.toNat*3)) (fun(a4:Int×Sl×Sl) w=>CallF Tryz.prog 137 [.agg #[.int .u64 a4.1,a4.2.1.v,a4.2.2.v]] [tu8] (fun(a5:Int) w=>(if(a5==21)=true then∃a6,e1=some a6/\Ld tS (a6.add 3) (fun a7 w=>LdF s2 2 tS (fun a8 w=>(0<=s7.2.2/\s7.2.2<(a8.n:Int))/\(∃a9,a8.a=some a9/\Ld tS ((a9.add (s7.2.2.toNat*3)).add 1) (fun aa w=>LdF s2 2 tS (fun ab w=>(0<=s7.2.2/\s7.2.2<(ab.n:Int))/\(∃ac,ab.a=some ac/\Ld tS ((ac.add (s7.2.2.toNat*3)).add 2) (fun ad w=>NewS [aa.v,ad.v] 282 1 (fun ae w=>LdAt tS (a6.add 3) a7 w/\AppP si273 a7 ae (fun af w=>StF e1 3 (af.v) (fun w=>a1 (s9.1,s9.2,(i64.wrap (s7.2.2+1))) w) w) w) w) w)) w) w)) w) w.drew else(if(a5==20)=true then∃ag,e1=some ag/\Ld tS (ag.add 2) (fun ah w=>LdF s2 2 tS (fun ai w=>(0<=s7.2.2/\s7.2.2<(ai.n:Int))/\(∃aj,ai.a=some aj/\Ld tS ((aj.add (s7.2.2.toNat*3)).add 1) (fun ak w=>NewS [ak.v] 87 1 (fun al w=>LdAt tS (ag.add 2) ah w/\AppP si272 ah al (fun am w=>StF e1 2 (am.v) (fun w=>a1 (s9.1,s9.2,(i64.wrap (s7.2.2+1))) w) w) w) w) w)) w) w.drew else(if(a5==19)=true then a1 (true,s9.2,(i64.wrap (s7.2.2+1))) w else CallF Tryz.prog 104 [.string (⟨#[112,101,98,98,108,101,58,32,37,115,32,107,101,121,32,107,105,110,100,32,105,115,32,110,111,116,32,97,32,114,97,110,103,101,32,107,101,121]⟩),.slice none 0 0] [tI] (fun an w=>decI (IV.enc an) (fun ao=>K ao w)) w)))) w) w)) w) (fun ap=>Tr.Join (fun(aq:Bool) w=>(if aq=true then Tr.Join (fun(ar:Unit) w=>LdF s2 2 tS (fun au w=>(0<=s7.2.2/\s7.2.2<(au.n:Int))/\(∃av,au.a=some av/\Ld (.agg [.int .u64,.sl,.sl]) (av.add (s7.2.2.toNat*3)) (fun(ax:Int×Sl×Sl) w=>CallF Tryz.prog 135 [.agg #[.int .u64 ax.1,ax.2.1.v,ax.2.2.v]] [tu64] (fun(ay:Int) w=>LdF e1 3 tS (fun az w=>(0<=(0:Int)/\(0:Int)<=(az.c:Int))/\StF e1 3 (.slice az.a 0 az.c) (fun w=>LdF e1 2 tS (fun b w=>(0<=(0:Int)/\(0:Int)<=(b.c:Int))/\StF e1 2 (.slice b.a 0 b.c) (fun w=>ap (false,ay) w) w) w) w) w) w) w)) w) (fun b0=>(if(decide (s7.2.2>0))=true then CallF Tryz.prog 136 [.pointer e1,.pointer s2,.int .u64 s7.2.1,.bool s7.1] [tI] (fun b1 w=>IsI (IV.enc b1)/\(if(!(isNilI (IV.enc b1)))=true then decI (IV.enc b1) (fun b2=>K b2 w)else b0 () w)) w else b0 () w))else ap (s7.1,s7.2.1) w)) (fun b3=>(if(s7.2.2==0)=false then LdF s2 2 tS (fun b4 w=>(0<=s7.2.2/\s7.2.2<(b4.n:Int))/\(∃b5,b4.a=some b5/\Ld (.agg [.int .u64,.sl,.sl]) (b5.add (s7.2.2.toNat*3)) (fun(b6:Int×Sl×Sl) w=>CallF Tryz.prog 135 [.agg #[.int .u64 b6.1,b6.2.1.v,b6.2.2.v]] [tu64] (fun(b7:Int) w=>b3 (b7 !=s7.2.1) w) w) w)) w else b3 true w)))else CallF Tryz.prog 136 [.pointer e1,.pointer s2,.int .u64 s7.2.1,.bool s7.1] [tI] (fun b8 w=>decI (IV.enc b8) (fun b9=>K b9 w)) w)) (false,(0:Int),(0:Int)) w) w)) w
theorem call101 {e1 s2 K w}(h:F101 e1 s2 K w):CallF Tryz.prog 101 [.pointer e1,.pointer s2] [tI] K w:=ctr Tryz.func101 A101 (by kernel_rfl) (by kernel_rfl) h
def A102 :=au Tryz.f102 [(12,[(14,tB)]),(21,[])] []
def F102 (kind1:Int)(data2:Sl)(K:(Sl×Sl×Bool)->WP)(w:World):Prop:=(if(kind1==19)=true then K (data2,⟨none,0,0⟩,true) w else Tr.Join (fun(s3:Bool) w=>(if s3=true then CallF Tryz.prog 138 [data2.v] [tu64,ti64] (fun(r5:Int×Int) w=>Tr.Join (fun(s6:Unit) w=>(0<=r5.2/\r5.2<=(i64.wrap (r5.2+(i64.wrap r5.1)))/\(i64.wrap (r5.2+(i64.wrap r5.1)))<=(data2.c:Int))/\(0<=(i64.wrap (r5.2+(i64.wrap r5.1)))/\(i64.wrap (r5.2+(i64.wrap r5.1)))<=(data2.n:Int))/\K (⟨(sub data2.a 1 r5.2.toNat ((i64.wrap (r5.2+(i64.wrap r5.1))).toNat) data2.c).a,((i64.wrap (r5.2+(i64.wrap r5.1))).toNat-r5.2.toNat),(data2.c-r5.2.toNat)⟩,⟨(sub data2.a 1 ((i64.wrap (r5.2+(i64.wrap r5.1))).toNat) data2.n data2.c).a,(data2.n-(i64.wrap (r5.2+(i64.wrap r5.1))).toNat),(data2.c-(i64.wrap (r5.2+(i64.wrap r5.1))).toNat)⟩,true) w.drew) (fun a0=>(if(decide (r5.2<=(0:Int)))=false then(if(decide ((u64.wrap ((u64.wrap r5.2)+r5.1))>=(u64.wrap (data2.n:Int))))=true then K (⟨none,0,0⟩,⟨none,0,0⟩,false) w else a0 () w)else K (⟨none,0,0⟩,⟨none,0,0⟩,false) w))) w else False)) (fun a1=>(if(kind1==21)=true then a1 (kind1==21) w else a1 (kind1==20) w)))
theorem call102 {kind1 data2 K w}(h:F102 kind1 data2 K w):CallF Tryz.prog 102 [.int .u8 kind1,data2.v] [tS,tS,tB] K w:=ctr Tryz.func102 A102 (by kernel_rfl) (by kernel_rfl) h
def A103 :=au Tryz.f103 [] []
def F103 (k1:Sl×Int)(K:Int->WP)(w:World):Prop:=NewP [k1.1.v,.int .u64 k1.2] 97 (fun n2 w=>Ld tu64 (n2.add 1) (fun(a0:Int) w=>CallF Tryz.prog 139 [.int .u64 a0] [tu8] (fun(r4:Int) w=>K r4 w) w) w) w
theorem call103 {k1 K w}(h:F103 k1 K w):CallF Tryz.prog 103 [.agg #[k1.1.v,.int .u64 k1.2]] [tu8] K w:=ctr Tryz.func103 A103 (by kernel_rfl) (by kernel_rfl) h
def A105 :=au Tryz.f105 [] []
def F105 (data1:Sl)(K:((Sl×Sl)×Sl×Bool)->WP)(w:World):Prop:=NewP [.slice none 0 0,.slice none 0 0] 282 (fun n2 w=>CallF Tryz.prog 142 [data1.v] [tS,tS,tB] (fun(r3:Sl×Sl×Bool) w=>St (n2.add 0) (r3.1.v) (fun w=>(if(!r3.2.2)=true then StL n2 [.slice none 0 0,.slice none 0 0] (fun w=>Ld (.agg [.sl,.sl]) n2 (fun r4 w=>K ((r4.1,r4.2),⟨none,0,0⟩,false) w) w) w else CallF Tryz.prog 142 [r3.2.1.v] [tS,tS,tB] (fun(r5:Sl×Sl×Bool) w=>St (n2.add 1) (r5.1.v) (fun w=>(if(!r5.2.2)=true then StL n2 [.slice none 0 0,.slice none 0 0] (fun w=>Ld (.agg [.sl,.sl]) n2 (fun r6 w=>K ((r6.1,r6.2),⟨none,0,0⟩,false) w) w) w else Ld (.agg [.sl,.sl]) n2 (fun x7 w=>StL n2 [x7.1.v,x7.2.v] (fun w=>Ld (.agg [.sl,.sl]) n2 (fun r8 w=>K ((r8.1,r8.2),r5.2.1,true) w) w) w) w)) w) w)) w) w) w
theorem call105 {data1 K w}(h:F105 data1 K w):CallF Tryz.prog 105 [data1.v] [(.agg [.sl,.sl]),tS,tB] K w:=ctr Tryz.func105 A105 (by kernel_rfl) (by kernel_rfl) h
def A106 :=au Tryz.f106 [] []
def F106 (data1:Sl)(K:(Sl×Sl×Bool)->WP)(w:World):Prop:=CallF Tryz.prog 142 [data1.v] [tS,tS,tB] (fun(r2:Sl×Sl×Bool) w=>K (r2.1,r2.2.1,r2.2.2) w) w
theorem call106 {data1 K w}(h:F106 data1 K w):CallF Tryz.prog 106 [data1.v] [tS,tS,tB] K w:=ctr Tryz.func106 A106 (by kernel_rfl) (by kernel_rfl) h
def A107 :=au Tryz.f107 [] []
def F107 (s1:Sl×Sl×Sl×Int)(a2:Addr)(K:Unit->WP)(w:World):Prop:=NewP [s1.1.v,s1.2.1.v,s1.2.2.1.v,.int .i8 s1.2.2.2] 113 (fun n3 w=>Ld tP a2 (fun x4 w=>Ld tP a2 (fun x5 w=> ∃p6,x5=some p6/\Ld tS p6 (fun x7 w=>Ld (.agg [.sl,.sl,.sl,.int .i8]) n3 (fun(x8:Sl×Sl×Sl×Int) w=>CallF Tryz.prog 54 [.agg #[x8.1.v,x8.2.1.v,x8.2.2.1.v,.int .i8 x8.2.2.2]] [(.agg [.str,.str,.sl])] (fun r9 w=>LdAt tS p6 x7 w/\LdAt tP a2 x5 w/\LdAt tP a2 x4 w/\NewS [.string r9.1,.string r9.2.1,r9.2.2.v] 44 1 (fun a0 w=>LdAt tS p6 x7 w/\LdAt tP a2 x5 w/\LdAt tP a2 x4 w/\AppP si25 x7 a0 (fun a1 w=>LdAt tP a2 x4 w/\ ∃a3,x4=some a3/\St a3 (a1.v) (fun w=>K () w) w) w) w) w) w) w) w) w.drew) w
theorem call107 {s1 a2 K w}(h:F107 s1 a2 K w):CallF Tryz.prog 107 [.agg #[s1.1.v,s1.2.1.v,s1.2.2.1.v,.int .i8 s1.2.2.2],.pointer (some a2)] [] K w:=ctr Tryz.func107 A107 (by kernel_rfl) (by kernel_rfl) h
def A110 :=au Tryz.f110 [(27,[(4,tS)])] [(12,[(4,tS),(37,ti64)])]
def F110 (f1:Option Addr)(key2:Sl)(K:Unit->WP)(w:World):Prop:=LdF f1 8 tS (fun a0 w=>(0<=(0:Int)/\(0:Int)<=(a0.c:Int))/\AppP si87 ⟨a0.a,0,a0.c⟩ key2 (fun a5 w=>StF f1 8 (a5.v) (fun w=>LdF f1 4 tS (fun a1 w=>(0<=(0:Int)/\(0:Int)<=(a1.c:Int))/\LdF f1 3 tS (fun a2 w=>LdF f1 3 tS (fun a3 w=>(0<=(0:Int)/\(0:Int)<=(a3.c:Int))/\StF f1 3 (.slice a3.a 0 a3.c) (fun w=>Tr.Loop (fun(a4:(Sl×Int)->WP) (s14:Sl×Int) w=>(if(decide (s14.2<(a2.n:Int)))=true then(0<=s14.2/\s14.2<(a2.n:Int))/\(∃a6,a2.a=some a6/\Ld (.agg [.sl,.sl,.sl,.int .i8]) (a6.add (s14.2.toNat*4)) (fun(a7:Sl×Sl×Sl×Int) w=>NewP [.slice none 0 0,.slice none 0 0,.slice none 0 0,.int .i8 0] 113 (fun a8 w=>StL a8 [a7.1.v,a7.2.1.v,a7.2.2.1.v,.int .i8 a7.2.2.2] (fun w=>LdF f1 0 tF (fun a9 w=>Ld tS (a8.add 1) (fun aa w=>CallV Tryz.prog (FV.enc a9) [key2.v,aa.v] [ti64] (fun(ab:Int) w=>(if(decide (ab<0))=true then Tr.Join (fun(ac:Sl) w=> ∃ad,f1=some ad/\Ld tS (ad.add 3) (fun ae w=>Ld tS (a8.add 1) (fun af w=>Ld tS (a8.add 2) (fun ag w=>NewS [key2.v,af.v,ag.v,.int .i8 0] 113 1 (fun ah w=>LdAt tS (ad.add 3) ae w/\AppP si193 ae ah (fun ai w=>StF f1 3 (ai.v) (fun w=>a4 (ac,(i64.wrap (s14.2+1))) w) w) w) w) w) w) w.drew) (fun aj=>LdF f1 0 tF (fun ak w=>Ld tS (a8.add 0) (fun al w=>CallV Tryz.prog (FV.enc ak) [al.v,key2.v] [ti64] (fun(am:Int) w=>(if(decide (am<0))=true then Ld tS (a8.add 0) (fun an w=>Ld tS (a8.add 2) (fun ao w=>NewS [an.v,key2.v,ao.v,.int .i8 0] 113 1 (fun ap w=>AppP si193 s14.1 ap (fun aq w=>aj aq w) w) w) w) w else aj s14.1 w)) w) w) w.drew)else Ld (.agg [.sl,.sl,.sl,.int .i8]) a8 (fun(ar:Sl×Sl×Sl×Int) w=>NewS [ar.1.v,ar.2.1.v,ar.2.2.1.v,.int .i8 ar.2.2.2] 113 1 (fun au w=>AppP si193 s14.1 au (fun av w=>a4 (av,(i64.wrap (s14.2+1))) w) w) w) w)) w) w) w.drew) w) w) w)else(0<=(0:Int)/\(0:Int)<=(s14.1.c:Int))/\StF f1 4 (.slice s14.1.a 0 s14.1.c) (fun w=>CallF Tryz.prog 111 [.pointer f1,s14.1.v,.slice none 0 0] [] (fun ax w=>K () w) w) w)) (⟨a1.a,0,a1.c⟩,(0:Int)) w) w) w) w) w) w) w) w
theorem call110 {f1 key2 K w}(h:F110 f1 key2 K w):CallF Tryz.prog 110 [.pointer f1,key2.v] [] K w:=ctr Tryz.func110 A110 (by kernel_rfl) (by kernel_rfl) h
def A111 :=au Tryz.f111 [(1,[]),(39,[(6,ti64)]),(51,[])] [(11,[(1,tS)]),(29,[(6,ti64),(8,ti64)]),(61,[(122,ti64)])]
def F111 (f1:Option Addr)(buf2:Sl)(lastKey3:Sl)(K:Unit->WP)(w:World):Prop:=Tr.Join (fun(s4:Unit) w=>LdF f1 0 tF (fun a0 w=> ∃p8,f1=some p8/\St ((p8.add 5).add 0) (FV.enc a0) (fun w=> ∃p9,f1=some p9/\St ((p9.add 5).add 1) (buf2.v) (fun w=> ∃a1,f1=some a1/\CallF Tryz.prog 88 [(.iface 328 (.pointer (some (a1.add 5))))] [] (fun a2 w=>Tr.Loop (fun(a3:Sl->WP) (s12:Sl) w=>(if(decide ((s12.n:Int)>0))=true then(0<=(0:Int)/\(0:Int)<(s12.n:Int))/\(∃a4,s12.a=some a4/\Ld tS ((a4.add (0*4)).add 1) (fun a5 w=>LdF f1 7 tS (fun a6 w=>(0<=(0:Int)/\(0:Int)<=(a6.c:Int))/\(0<=(0:Int)/\(0:Int)<(s12.n:Int))/\(∃a7,s12.a=some a7/\Ld tS ((a7.add (0*4)).add 2) (fun a8 w=>AppP si152 ⟨a6.a,0,a6.c⟩ a8 (fun a9 w=>StF f1 7 (a9.v) (fun w=>Tr.Loop (fun(aa:(Int×Int)->WP) (s22:Int×Int) w=>(if(decide (s22.2<(s12.n:Int)))=true then Tr.Join (fun(ab:Int) w=>LdF f1 7 tS (fun ac w=>(0<=s22.2/\s22.2<(s12.n:Int))/\(∃ad,s12.a=some ad/\Ld tS ((ad.add (s22.2.toNat*4)).add 2) (fun ae w=>AppP si152 ac ae (fun af w=>StF f1 7 (af.v) (fun w=>aa (ab,(i64.wrap (s22.2+1))) w) w) w) w)) w.drew) (fun ag=>LdF f1 0 tF (fun ah w=>(0<=s22.2/\s22.2<(s12.n:Int))/\(∃ai,s12.a=some ai/\Ld tS ((ai.add (s22.2.toNat*4)).add 1) (fun aj w=>CallV Tryz.prog (FV.enc ah) [a5.v,aj.v] [ti64] (fun(ak:Int) w=>(if(ak==0)=true then ag (i64.wrap (s22.1+1)) w else ag s22.1 w)) w) w)) w.drew)else∃al,f1=some al/\CallF Tryz.prog 88 [(.iface 329 (.pointer (some (al.add 7))))] [] (fun am w=> ∃an,f1=some an/\Ld tF (an.add 2) (fun ao w=>(0<=(0:Int)/\(0:Int)<(s12.n:Int))/\(∃ap,s12.a=some ap/\Ld tS ((ap.add (0*4)).add 0) (fun aq w=>LdF f1 7 tS (fun ar w=>AppP si109 ⟨none,0,0⟩ ar (fun au w=>LdAt tS ((ap.add (0*4)).add 0) aq w/\LdAt tF (an.add 2) ao w/\CallV Tryz.prog (FV.enc ao) [.agg #[aq.v,a5.v,au.v,.int .i8 0]] [] (fun av w=>Tr.Join (fun(ax:Unit) w=>(0<=s22.1/\s22.1<=(s12.n:Int))/\Tr.Loop (fun(ay:Int->WP) (s49:Int) w=>(if(decide (s49<(((s12.n-s22.1.toNat):Nat):Int)))=true then(0<=s49/\s49<(((s12.n-s22.1.toNat):Nat):Int))/\(∃az,(sub s12.a 4 s22.1.toNat s12.n s12.c).a=some az/\St ((az.add (s49.toNat*4)).add 0) (a5.v) (fun w=>ay (i64.wrap (s49+1)) w) w)else a3 ⟨(sub s12.a 4 s22.1.toNat s12.n s12.c).a,(s12.n-s22.1.toNat),(s12.c-s22.1.toNat)⟩ w)) (0:Int) w) (fun b=>(if(!(lastKey3.a).isNone)=true then LdF f1 0 tF (fun b0 w=>CallV Tryz.prog (FV.enc b0) [a5.v,lastKey3.v] [ti64] (fun(b1:Int) w=>(if(decide (b1>0))=true then K () w else b () w)) w) w else b () w))) w) w) w) w)) w.drew) w)) ((1:Int),(1:Int)) w) w) w) w)) w.drew) w)else K () w)) buf2 w) w) w) w) w) (fun b2=>b2 () w)
theorem call111 {f1 buf2 lastKey3 K w}(h:F111 f1 buf2 lastKey3 K w):CallF Tryz.prog 111 [.pointer f1,buf2.v,lastKey3.v] [] K w:=ctr Tryz.func111 A111 (by kernel_rfl) (by kernel_rfl) h
def A112 :=au Tryz.f112 [] []
def F112 (b1:Option Addr)(keyLen2:Int)(K:(Option Addr)->WP)(w:World):Prop:=CallF Tryz.prog 116 [.pointer b1,.int .i64 keyLen2,.int .u8 0] [] (fun r3 w=> ∃p4,b1=some p4/\Ld tP ((p4.add 0).add 13) (fun a w=> ∃p6,b1=some p6/\St (((p6.add 0).add 9).add 0) (.pointer a) (fun w=> ∃p7,b1=some p7/\K (some ((p7.add 0).add 9)) w) w) w) w
theorem call112 {b1 keyLen2 K w}(h:F112 b1 keyLen2 K w):CallF Tryz.prog 112 [.pointer b1,.int .i64 keyLen2] [tP] K w:=ctr Tryz.func112 A112 (by kernel_rfl) (by kernel_rfl) h
end
end Go.Proofs.YtpkoddfamelnhaaGreatDoor
