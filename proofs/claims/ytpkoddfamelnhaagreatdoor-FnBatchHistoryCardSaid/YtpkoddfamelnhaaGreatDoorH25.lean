/- Part 25 of the proof of fnBatchHistory_card. Conditions: none. -/
import Derived.Test.YtpkoddfamelnhaaGreatDoorH24
set_option linter.unusedVariables false
set_option linter.unusedSimpArgs false
namespace Go.Proofs.YtpkoddfamelnhaaGreatDoor
open Go Go.Tr
set_option maxRecDepth 100000
def EntAt (D:Hp)(x:Sl)(E:List EntM):Prop:=x.n=E.length/\ ∀(j:Nat) (e:EntM),E[j]? =some e-> ∃a,x.a=some a/\ ∀(m:Nat) (v:Value),(ec e)[m]? =some v->DAt D ((a.add (j*4)).add m) v
theorem EntAt.mono {D D':Hp}(hd:D.le D'){x:Sl}{E:List EntM}(h:EntAt D x E):EntAt D' x E:=⟨h.1,fun j e he=>(h.2 j e he).imp fun _ g=>⟨g.1,fun m v hv=>(g.2 m v hv).mono hd⟩⟩
theorem entAbs {D:Hp}{x:Sl}{E:List EntM}{L w}(hn:x.n=E.length)(h:Sat w (Own D::Buf 4 x (E.flatMap ec)::L)): ∃G:Hp,D.le G/\EntAt G x E/\Sat w (Own G::L):=by
 obtain⟨G,l1,l2,h3⟩:=bufAbs h
 refine⟨G,l1,⟨hn,fun j e he=>?_⟩,h3⟩
 obtain⟨b,hb,_⟩:=l2 (j*4+0) (.int .u32 (e.off:Int)) (flat_get (f:=ec) (k:=4) E (fun _=>rfl) j 0 e _ he rfl)
 refine⟨b,hb,fun m v hv=>?_⟩
 obtain⟨b',hb',hd⟩:=l2 (j*4+m) v (flat_get (f:=ec) (k:=4) E (fun _=>rfl) j m e v he hv)
 rw[hb]at hb'
 injection hb' with hb'
 rw[hb',Addr.add_add];exact hd
def EntM.tr (e:EntM):Nat:=e.i*256+e.op.kind
def EntM.key (e:EntM)(data:Sl):Sl:=⟨(sub data.a 1 e.ks e.ke data.c).a,e.ke-e.ks,data.c-e.ks⟩
def itcs (q:Addr)(data offs:Sl)(idx:Int)(uk:Sl)(tr:Int):List Value:=[.pointer (some q),.slice data.a data.n data.c,.slice offs.a offs.n offs.c,cmpV,.int .i64 idx,.slice uk.a uk.n uk.c,.int .u64 tr,.nilIface,.slice none 0 0,.slice none 0 0]
theorem or64' {a b k:Nat}(hb:b<2^k)(h:a*2^k+b<2^64)(hk:k<=64):IntKind.u64.wrap ((BitVec.ofInt IntKind.u64.bits ((a*2^k:Nat):Int)|||BitVec.ofInt IntKind.u64.bits (b:Int)).toNat:Int)=((a*2^k+b:Nat):Int):=by
 rw[<-or64 hb h hk,BitVec.or_comm]
theorem spec290 {D}{p q:Addr}{data offs uk offs' tombs rks:Sl}{idx:Int}{tr:Int}{fmt}{bs:List Nat}{E:List EntM}{j:Nat}{e:EntM}{R w}{K:Sl×Int->WP}(hc:Cont D data bs)(hE:EntAt D offs E)(hj:E[j]? =some e)(ho:EntOK bs e)(hbs:bs.length<2^32)
  (h:Sat w (Arr p (itcs q data offs idx uk tr)::Arr q (fbc fmt data offs' tombs rks)::Own D::R)) (k: ∀w',Sat w' (Arr p (itcs q data offs idx uk tr)::Arr q (fbc fmt data offs' tombs rks)::Own D::R)->K (e.key data,(e.tr:Int)) w'):F290 (some p) (j:Int) K w:=by
 obtain⟨a,ha,hr⟩:=hE.2 j e hj
 have hjl:=(List.getElem?_eq_some_iff.1 hj).1
 have hke:=ho.ke
 have hcn:=hc.n
 have hcc:=hc.nc
 have hkk:e.ks<=e.ke:=by unfold EntM.ke;omega
 have hk23:e.op.kind<=23:=by have:=ho.op.kind;unfold OpKind at this;omega
 have hb:bs[e.off]? =some e.op.kind:=by
  obtain⟨rest,hrest⟩:=ho.at_
  obtain⟨tl,ht⟩:=recOp_key e.op
  have h1:(bs.drop e.off)[0]? =some e.op.kind:=by rw[hrest,ht];rfl
  rwa[List.getElem?_drop,Nat.add_zero]at h1
 have hrd: ∀{w},Sat w (Arr p (itcs q data offs idx uk tr)::Arr q (fbc fmt data offs' tombs rks)::Own D::R)-> ∀(m:Nat) (v:Value),(ec e)[m]? =some v->w.cell? ((a.add (j*4)).add m)=some v:=fun h m v hv=>h.dat .k2 (hr m v hv)
 unfold F290
 refine NewP_run h fun n3 w h=>?_
 have h':=h
 unfold itcs fbc at h
 refine⟨_,rfl,Ld1 h ⟨⟨by omega,by rw[hE.1];omega⟩,a,ha,_,rfl,Ld1 h ⟨_,rfl,?_⟩⟩⟩
 rw[Int.toNat_natCast]
 refine LdC (hrd h'.tail.near 0 _ rfl) ⟨⟨by omega,by dsimp only;omega⟩,?_⟩
 rw[Int.toNat_natCast]
 refine hc.byte h'.near .k3 hb ⟨_,rfl,Ld1 h ⟨_,rfl,LdC (hrd h'.tail.near 2 _ rfl) ⟨_,rfl,LdC (hrd h'.tail.near 3 _ rfl) ⟨⟨by omega,by omega,by dsimp only;omega⟩,_,rfl,Ld1 h ⟨_,rfl,Ld1 h ⟨_,rfl,LdC (hrd h'.tail.near 1 _ rfl) ?_⟩⟩⟩⟩⟩⟩
 rw[Int.toNat_natCast,Int.toNat_natCast]
 dsimp only
 refine call165 (userKey1:=⟨(sub data.a 1 e.ks e.ke data.c).a,e.ke-e.ks,data.c-e.ks⟩) ?_
 have e1:IntKind.u64.wrap ((0:Int)+IntKind.u64.wrap (e.i:Int))=(e.i:Int):=by
  have:=ho.i
  rw[wu64n (n:=e.i) om,wu64 om om];omega
 rw[e1]
 unfold F165
 refine NewP_run h fun n4 w h=>⟨by omega,?_⟩
 have hi:=ho.i
 have e2:IntKind.u64.wrap ((e.i:Int)*2^(min 8 IntKind.u64.bits))=((e.i*2^8:Nat):Int):=by
  rw[show min 8 IntKind.u64.bits=8 from rfl]
  have:(e.i:Int)*2^8=((e.i*2^8:Nat):Int):=by omega
  rw[this]
  exact wu64n om
 have e3:IntKind.u64.wrap (BitVec.ofInt IntKind.u64.bits (IntKind.u64.wrap ((e.i:Int)*2^(min 8 IntKind.u64.bits)))|||BitVec.ofInt IntKind.u64.bits (IntKind.u64.wrap (e.op.kind:Int))).toNat=(e.tr:Int):=by
  rw[e2,wu64n (n:=e.op.kind) om,or64' om om om]
  rfl
 rw[e3]
 refine StL_of (St1 h rfl fun w h=>St1 h rfl fun w h=>?_)
 simp only[StC]
 refine LdN h ?_
 refine StL_of (St1 h rfl fun w h=>St1 h rfl fun w h=>?_)
 simp only[StC]
 refine LdN h ?_
 exact k w h.tail.tail
def ValAt (D:Hp)(val:Sl)(o:OpM):Prop:=match opVal o with|none=>val=⟨none,0,0⟩|some v=>Cont D val v
theorem EntOK.val {bs:List Nat}{e:EntM}(h:EntOK bs e){v:List Nat}(hv:opVal e.op=some v): ∃rest,bs.drop e.ke=vi v.length++(v++rest):=by
 obtain⟨rest,hr⟩:=h.at_
 have h1:=recOp_val e.op
 rw[hv]at h1
 dsimp only at h1
 refine⟨rest,?_⟩
 have:e.ke=e.off+(e.op.kind::(vi e.op.key.size++bl e.op.key)).length:=by unfold EntM.ke EntM.ks;rw[List.length_cons,List.length_append,bl_len];omega
 have e2:recOp e.op=(e.op.kind::(vi e.op.key.size++bl e.op.key))++(vi v.length++v):=by rw[h1];unfold recKV;rw[bl_len];simp
 rw[this,<-List.drop_drop,hr,e2,List.append_assoc,List.drop_left' rfl,List.append_assoc]
theorem spec297 {x:Sl}{L w}{K:Sl×Option Addr->WP}(h:Sat w L)(k: ∀w',Sat w' L->K (x,none) w'):F297 x K w:=by
 unfold F297
 refine NewP_run h fun n2 w h=>StL_of (St1 h rfl fun w h=>St1 h rfl fun w h=>?_)
 simp only[StC]
 refine LdN h ?_
 exact k w h.tail
theorem spec291 {D}{p q:Addr}{data offs uk offs' tombs rks:Sl}{tr:Int}{fmt}{bs:List Nat}{E:List EntM}{j:Nat}{e:EntM}{R w}{K:Sl×Option Addr->WP}(hc:Cont D data bs)(hE:EntAt D offs E)(hj:E[j]? =some e)(ho:EntOK bs e)(hbs:bs.length<2^32)
  (h:Sat w (Arr p (itcs q data offs (j:Int) uk tr)::Arr q (fbc fmt data offs' tombs rks)::Own D::R)) (k: ∀val w',ValAt D val e.op->Sat w' (Arr p (itcs q data offs (j:Int) uk tr)::Arr q (fbc fmt data offs' tombs rks)::Own D::R)->K (val,none) w'):F291 (some p) K w:=by
 obtain⟨a,ha,hr⟩:=hE.2 j e hj
 have hjl:=(List.getElem?_eq_some_iff.1 hj).1
 have hke:=ho.ke
 have hcn:=hc.n
 have hcc:=hc.nc
 have hkind:=ho.op.kind
 have hk23:e.op.kind<=23:=by unfold OpKind at hkind;omega
 have hb:(bs.drop e.off)[0]? =some e.op.kind:=by
  obtain⟨rest,hrest⟩:=ho.at_
  obtain⟨tl,ht⟩:=recOp_key e.op
  rw[hrest,ht];rfl
 have hrd: ∀{w},Sat w (Arr p (itcs q data offs (j:Int) uk tr)::Arr q (fbc fmt data offs' tombs rks)::Own D::R)-> ∀(m:Nat) (v:Value),(ec e)[m]? =some v->w.cell? ((a.add (j*4)).add m)=some v:=fun h m v hv=>h.dat .k2 (hr m v hv)
 have c1:=hc.tail (p:=e.off) om
 unfold F291
 refine NewP_run h fun n2 w h=>?_
 have h':=h
 unfold itcs fbc at h
 refine⟨_,rfl,Ld1 h ⟨_,rfl,Ld1 h ⟨_,rfl,Ld1 h ⟨⟨by omega,by rw[hE.1];omega⟩,a,ha,?_⟩⟩⟩⟩
 rw[Int.toNat_natCast]
 refine LdC (hrd h'.tail.near 0 _ rfl) ⟨⟨by omega,by dsimp only;omega⟩,?_⟩
 rw[Int.toNat_natCast]
 dsimp only
 refine ife (fun hh=>absurd hh om) fun _=>⟨⟨by omega,by omega⟩,?_⟩
 refine c1.byte h'.near .k3 hb ?_
 refine ifd (fun hh=>absurd hh om) fun _=>?_
 refine⟨fun b w=>b= !decide (e.op.kind=0\/e.op.kind=7)/\Sat w (Arr n2 [.slice none 0 0,.pointer none]::Arr p (itcs q data offs (j:Int) uk tr)::Arr q (fbc fmt data offs' tombs rks)::Own D::R),?_,?_⟩
 ·clear h h'
  rintro b w ⟨rfl,h'⟩
  have h:=h'
  unfold itcs fbc at h
  have hnone:=opVal_none ho.op
  cases hv:opVal e.op with
  | none =>
   have hk0:=hnone.1 hv
   refine ifb (fun hh=>?_) fun _=>?_
   ·simp[hk0]at hh
   ·refine call297 (val1:=⟨none,0,0⟩) (spec297 h' fun w h=>StL_of (St1 h rfl fun w h=>St1 h rfl fun w h=>?_))
    simp only[StC]
    refine LdN h ?_
    exact k ⟨none,0,0⟩ w (by unfold ValAt;rw[hv]) h.tail
  | some v =>
   have hk0: ¬(e.op.kind=0\/e.op.kind=7):=fun hh=>by rw[hnone.2 hh]at hv;cases hv
   have hvlen:=opVal_len ho.op hv
   obtain⟨rest,hrest⟩:=ho.val hv
   have c2:=hc.tail (p:=e.ke) om
   rw[hrest]at c2
   refine ifb (fun _=>?_) fun hh=>?_
   ·refine⟨_,rfl,Ld1 h ⟨_,rfl,Ld1 h ⟨⟨by omega,by rw[hE.1];omega⟩,a,ha,?_⟩⟩⟩
    rw[Int.toNat_natCast]
    refine LdC (hrd h'.tail.near 3 _ rfl) ⟨_,rfl,Ld1 h ⟨⟨by omega,by dsimp only;omega⟩,?_⟩⟩
    rw[Int.toNat_natCast]
    dsimp only
    refine call130 (data1:=⟨(sub data.a 1 e.ke data.n data.c).a,data.n-e.ke,data.c-e.ke⟩) ?_
    refine spec130 om rfl c2 (by dsimp only;omega) h'.near .k3 fun r2 v2 w c4 hr2 c5 hv2 h=>?_
    dsimp only
    refine ifn (fun hh=>nomatch hh) fun _=>?_
    refine call297 (val1:=v2) (spec297 h fun w h=>StL_of (St1 h rfl fun w h=>St1 h rfl fun w h=>?_))
    simp only[StC]
    refine LdN h ?_
    exact k v2 w (by unfold ValAt;rw[hv];exact c5) h.tail
   ·simp[hk0]at hh
 ·replace h':=h'.near (w':=w.drew)
  unfold OpKind at hkind
  rcases hkind with hk|hk|hk|hk|hk|hk|hk|hk|hk<;>rw[hk]<;>repeat' first
   |exact⟨rfl,h'⟩
   |refine ife (fun _=>?_) fun hh=>absurd rfl hh
   |refine ife (fun hh=>absurd hh (by decide)) fun _=>?_
theorem spec280 {D}{p q:Addr}{data offs uk offs' tombs rks:Sl}{idx tr:Int}{fmt}{bs:List Nat}{E:List EntM}{R w}{K:Option Addr×Sl×Option Addr->WP}(hc:Cont D data bs)(hE:EntAt D offs E)(ho: ∀e∈E,EntOK bs e)(hbs:bs.length<2^32)
  (h:Sat w (Arr p (itcs q data offs idx uk tr)::Arr q (fbc fmt data offs' tombs rks)::Own D::R))
  (k0: ∀w',E=[]->Sat w' (Arr p (itcs q data offs idx uk tr)::Arr q (fbc fmt data offs' tombs rks)::Own D::R)->K (none,⟨none,0,0⟩,none) w')
  (k1: ∀e val w',E[0]? =some e->ValAt D val e.op->Sat w' (Arr p (itcs q data offs ((0:Nat):Int) (e.key data) (e.tr:Int))::Arr q (fbc fmt data offs' tombs rks)::Own D::R)->K (some (p.add 5),val,none) w'):F280 (some p) K w:=by
 unfold F280
 refine NewP_run h fun n2 w h=>?_
 have h':=h
 unfold itcs at h
 refine⟨_,rfl,St1 h rfl fun w h=>⟨_,rfl,Ld1 h ?_⟩⟩
 refine ife (fun hh=>?_) fun hh=>?_
 ·refine StL_of (St1 h rfl fun w h=>St1 h rfl fun w h=>?_)
  simp only[StC]
  refine LdN h ?_
  exact k0 w (List.length_eq_zero_iff.1 (by rw[hE.1]at hh;omega)) h.tail
 ·have hpos:0<E.length:=by
   have h1: ¬((E.length:Int)=0):=by rw[<-hE.1];exact hh
   omega
  have he:E[0]? =some E[0]:=List.getElem?_eq_getElem hpos
  have hm:=List.getElem_mem hpos
  generalize E[0]=e at he hm
  refine⟨_,rfl,St1 h rfl fun w h=>⟨_,rfl,Ld1 h ?_⟩⟩
  have h2:Sat w (Arr p (itcs q data offs ((0:Nat):Int) uk tr)::Arr q (fbc fmt data offs' tombs rks)::Own D::Arr n2 [.slice none 0 0,.pointer none]::R):=h.pt 3
  refine call290 (index2:=((0:Nat):Int)) (spec290 hc hE he (ho e hm) hbs h2 fun w h=>?_)
  unfold itcs at h
  refine⟨_,rfl,StL_of (St1 h rfl fun w h=>St1 h rfl fun w h=>?_)⟩
  simp only[StC]
  have h3:Sat w (Arr p (itcs q data offs ((0:Nat):Int) (e.key data) (e.tr:Int))::Arr q (fbc fmt data offs' tombs rks)::Own D::Arr n2 [.slice none 0 0,.pointer none]::R):=h
  clear h h2
  refine⟨fun b w=>b=false/\Sat w (Arr p (itcs q data offs ((0:Nat):Int) (e.key data) (e.tr:Int))::Arr q (fbc fmt data offs' tombs rks)::Own D::Arr n2 [.slice none 0 0,.pointer none]::R),?_,?_⟩
  ·clear h3
   rintro b w ⟨rfl,h⟩
   refine ifb (fun hh=>nomatch hh) fun _=>⟨_,rfl,?_⟩
   refine call291 (spec291 hc hE he (ho e hm) hbs h.near fun val w hv h=>StL_of (St1 h rfl fun w h=>St1 h rfl fun w h=>?_))
   simp only[StC]
   refine LdN h ?_
   exact k1 e val w he hv (((h.mv 3).tail))
  ·have h:=h3
   unfold itcs at h
   refine⟨_,rfl,Ld1 h ?_⟩
   exact ifNNone ⟨rfl,h3.near⟩
theorem spec282 {D}{p q:Addr}{data offs uk offs' tombs rks:Sl}{tr:Int}{fmt}{bs:List Nat}{E:List EntM}{j:Nat}{R w}{K:Option Addr×Sl×Option Addr->WP}(hc:Cont D data bs)(hE:EntAt D offs E)(ho: ∀e∈E,EntOK bs e)(hbs:bs.length<2^32)(hj:j<E.length)(hEn:E.length<2^32)
  (h:Sat w (Arr p (itcs q data offs (j:Int) uk tr)::Arr q (fbc fmt data offs' tombs rks)::Own D::R))
  (k0: ∀uk tr w',j+1=E.length->Sat w' (Arr p (itcs q data offs ((j+1:Nat):Int) uk tr)::Arr q (fbc fmt data offs' tombs rks)::Own D::R)->K (none,⟨none,0,0⟩,none) w')
  (k1: ∀e val w',E[j+1]? =some e->ValAt D val e.op->Sat w' (Arr p (itcs q data offs ((j+1:Nat):Int) (e.key data) (e.tr:Int))::Arr q (fbc fmt data offs' tombs rks)::Own D::R)->K (some (p.add 5),val,none) w'):F282 (some p) K w:=by
 have hEo:=hE.1
 unfold F282
 refine NewP_run h fun n2 w h=>?_
 unfold itcs at h
 refine⟨_,rfl,Ld1 h ⟨_,rfl,Ld1 h ?_⟩⟩
 refine ife (fun hh=>?_) fun _=>?_
 ·dsimp only at hh;omega
 have ew:IntKind.i64.wrap ((j:Int)+1)=((j+1:Nat):Int):=w1 om
 refine⟨_,rfl,Ld1 h ⟨_,rfl,St1 h rfl fun w h=>⟨_,rfl,Ld1 h ⟨_,rfl,Ld1 h ?_⟩⟩⟩⟩
 rw[ew]at h|-
 refine ife (fun hh=>?_) fun hh=>?_
 ·refine StL_of (St1 h rfl fun w h=>St1 h rfl fun w h=>?_)
  simp only[StC]
  refine LdN h ?_
  dsimp only at hh
  exact k0 uk tr w om h.tail
 ·have hjl:j+1<E.length:=by
   have h1: ¬(((j+1:Nat):Int)=(offs.n:Int)):=hh
   omega
  have he:E[j+1]? =some E[j+1]:=List.getElem?_eq_getElem hjl
  have hm:=List.getElem_mem hjl
  generalize E[j+1]=e at he hm
  refine⟨_,rfl,Ld1 h ?_⟩
  have h2:Sat w (Arr p (itcs q data offs ((j+1:Nat):Int) uk tr)::Arr q (fbc fmt data offs' tombs rks)::Own D::Arr n2 [.slice none 0 0,.pointer none]::R):=h.pt 3
  refine call290 (index2:=((j+1:Nat):Int)) (spec290 hc hE he (ho e hm) hbs h2.near fun w h=>?_)
  unfold itcs at h
  refine⟨_,rfl,StL_of (St1 h rfl fun w h=>St1 h rfl fun w h=>?_)⟩
  simp only[StC]
  have h3:Sat w (Arr p (itcs q data offs ((j+1:Nat):Int) (e.key data) (e.tr:Int))::Arr q (fbc fmt data offs' tombs rks)::Own D::Arr n2 [.slice none 0 0,.pointer none]::R):=h
  clear h h2
  refine⟨fun b w=>b=false/\Sat w (Arr p (itcs q data offs ((j+1:Nat):Int) (e.key data) (e.tr:Int))::Arr q (fbc fmt data offs' tombs rks)::Own D::Arr n2 [.slice none 0 0,.pointer none]::R),?_,?_⟩
  ·clear h3
   rintro b w ⟨rfl,h⟩
   refine ifb (fun hh=>nomatch hh) fun _=>⟨_,rfl,?_⟩
   refine call291 (spec291 hc hE he (ho e hm) hbs h.near fun val w hv h=>StL_of (St1 h rfl fun w h=>St1 h rfl fun w h=>?_))
   simp only[StC]
   refine LdN h ?_
   exact k1 e val w he hv (((h.mv 3).tail))
  ·have h:=h3
   unfold itcs at h
   refine⟨_,rfl,Ld1 h ?_⟩
   exact ifNNone ⟨rfl,h3.near⟩
def rkC (nn q:Addr)(fmt:FV)(data offs tombs:Sl)(D:Hp)(l:List SpanM):Chunk:=fun g=> ∃(xs:List SpC) (rks:Sl),SpsRel D xs l/\rks.n=xs.length/\Star (Arr q (fbc fmt data offs tombs rks)) (Star (Buf 4 rks (xs.flatMap spc)) (Arr nn [.pointer (some q)])) g
theorem rkOpen {nn q:Addr}{fmt}{data offs tombs:Sl}{D}{l:List SpanM}{L w}(h:Sat w (rkC nn q fmt data offs tombs D l::L)): ∃(xs:List SpC) (rks:Sl),SpsRel D xs l/\rks.n=xs.length/\Sat w (Arr q (fbc fmt data offs tombs rks)::Buf 4 rks (xs.flatMap spc)::Arr nn [.pointer (some q)]::L):=by
 obtain⟨g,⟨xs,rks,h1,h2,h3⟩,hg⟩:=h
 refine⟨xs,rks,h1,h2,?_⟩
 have h4:Sat w (Star (Arr q (fbc fmt data offs tombs rks)) (Star (Buf 4 rks (xs.flatMap spc)) (Arr nn [.pointer (some q)]))::L):=⟨g,h3,hg⟩
 exact(Sat.star.1 (Sat.star.1 h4).t1).t2
theorem rkShut {nn q:Addr}{fmt}{data offs tombs rks:Sl}{D}{l:List SpanM}{xs:List SpC}{L w}(h1:SpsRel D xs l)(h2:rks.n=xs.length)(h:Sat w (Arr q (fbc fmt data offs tombs rks)::Buf 4 rks (xs.flatMap spc)::Arr nn [.pointer (some q)]::L)):Sat w (rkC nn q fmt data offs tombs D l::L):=by
 have h3:Sat w (Star (Buf 4 rks (xs.flatMap spc)) (Arr nn [.pointer (some q)])::Arr q (fbc fmt data offs tombs rks)::L):=Sat.star.2 ((h.mv 2).mv 2)
 have h4:=Sat.star.2 h3.t1
 exact h4.cons fun g hg=>⟨xs,rks,h1,h2,hg⟩
theorem emit_run {D}{nn q n3:Addr}{fmt}{data offs tombs:Sl}{l:List SpanM}{x:SpC}{s:SpanM}{R}{w:World}{K:Unit->WP}(hx:SpRel D x s)(hl:l.length<2^32)(h:Sat w (Arr n3 (spc x)::Own D::rkC nn q fmt data offs tombs D l::R))(k: ∀w',Sat w' (Own D::rkC nn q fmt data offs tombs D (l++[s])::R)->K () w'):
  Ld (.one .ptr) nn (fun(x4:Option Addr) w=>Ld (.one .ptr) nn (fun(x5:Option Addr) w=> ∃p6,x5=some p6/\Ld (.one .sl) (p6.add 6) (fun(rangeKeys7:Sl) w=>Ld (.agg [.sl,.sl,.sl,.int .i8]) n3 (fun(x8:Sl×Sl×Sl×Int) w=>
   NewS [.slice x8.1.a x8.1.n x8.1.c,.slice x8.2.1.a x8.2.1.n x8.2.1.c,.slice x8.2.2.1.a x8.2.2.1.n x8.2.2.1.c,.int .i8 x8.2.2.2] 113 1 (fun(l9:Sl) w=>
   LdAt (.one .sl) (p6.add 6) rangeKeys7 w/\LdAt (.one .ptr) nn x5 w/\LdAt (.one .ptr) nn x4 w/\AppP si193 rangeKeys7 l9 (fun(a10:Sl) w=>LdAt (.one .ptr) nn x4 w/\ ∃p11,x4=some p11/\St (p11.add 6) (.slice a10.a a10.n a10.c) (fun w=>K () w) w) w) w) w) w) w) w.drew:=by
 obtain⟨xs,rks,h1,h2,h3⟩:=rkOpen ((h.mv 2):Sat w (rkC nn q fmt data offs tombs D l::Arr n3 (spc x)::Own D::R))
 clear h
 have hlen:=h1.len
 have h:=h3
 unfold fbc spc at h
 refine Ld1 h (Ld1 h ⟨_,rfl,Ld1 h (LdN h (NewS_run h fun l9 w h=>⟨LdAt1 h,LdAt1 h,LdAt1 h,?_⟩))⟩)
 have h':Sat w (Arr l9 (spc x)::Arr q (fbc fmt data offs tombs rks)::Buf 4 rks (xs.flatMap spc)::Arr nn [.pointer (some q)]::Arr n3 (spc x)::Own D::R):=h
 refine App1 (k:=4) rfl h' .k2 .here rfl (spc_one x) ?_ (by dsimp only;omega) fun r w er ea h=>?_
 ·show(2*(rks.n+1)+1024)*80<=_
  omega
 unfold fbc at h
 refine⟨LdAt1 h,_,rfl,St1 h rfl fun w h=>k w ?_⟩
 have e1:(xs++([x]:List SpC)).flatMap spc=xs.flatMap spc++spc x:=by simp[List.flatMap_append]
 have h5:Sat w (Arr q (fbc fmt data offs tombs r)::Buf 4 r ((xs++[x]).flatMap spc)::Arr nn [.pointer (some q)]::Own D::R):=by
  rw[e1]
  exact((((h.t1.tail).mv 3).tail).t1)
 exact(rkShut (h1.app (show SpsRel D [x] [s]from⟨hx,trivial⟩)) (by rw[er,h2,List.length_append];rfl) h5).mv 1
def emitRK (nn q:Addr)(fmt:FV)(data offs tombs:Sl):EmitI where
 em:=.mk (.func 91) #[] #[.pointer (some nn)]
 C:=rkC nn q fmt data offs tombs
 mono:=fun hd ⟨xs,rks,h1,h2,h3⟩=>⟨xs,rks,h1.mono hd,h2,h3⟩
 run:=fun {D l x s R w K} hx _ hl h k=>by
  refine CallV_run' (call91 (s1:=(x.lo,x.hi,x.ks,0)) (a2:=nn) ?_)
  unfold F91
  refine NewP_run h fun n3 w h=>?_
  exact emit_run hx hl h k
theorem m258First :MethAt Tryz.prog 258 "First" 280:=by intro v w;kernel_rfl
theorem m258Next :MethAt Tryz.prog 258 "Next" 282:=by intro v w;kernel_rfl
def itV (p:Addr):IV:=.mk 258 (.pointer (some p))
theorem itFirst {D}{p q nn:Addr}{data offs uk offs' tombs:Sl}{idx tr:Int}{fmt}{bs:List Nat}{E:List EntM}{l:List SpanM}{R w}{K:Option Addr×Sl×Option Addr->WP}(hc:Cont D data bs)(hE:EntAt D offs E)(ho: ∀e∈E,EntOK bs e)(hbs:bs.length<2^32)
  (h:Sat w (Arr p (itcs q data offs idx uk tr)::rkC nn q fmt data offs' tombs D l::Own D::R))
  (k0: ∀w',E=[]->Sat w' (Arr p (itcs q data offs idx uk tr)::rkC nn q fmt data offs' tombs D l::Own D::R)->K (none,⟨none,0,0⟩,none) w')
  (k1: ∀e val w',E[0]? =some e->ValAt D val e.op->Sat w' (Arr p (itcs q data offs ((0:Nat):Int) (e.key data) (e.tr:Int))::rkC nn q fmt data offs' tombs D l::Own D::R)->K (some (p.add 5),val,none) w'):CallI Tryz.prog (itV p).enc "First" [] [(.one .ptr),(.agg [.sl,.ptr])] K w:=by
 obtain⟨xs,rks,h1,h2,h3⟩:=rkOpen h.t1
 have h4:Sat w (Arr p (itcs q data offs idx uk tr)::Arr q (fbc fmt data offs' tombs rks)::Own D::Buf 4 rks (xs.flatMap spc)::Arr nn [.pointer (some q)]::R):=(((((h3.mv 2).mv 2).mv 4).mv 3).mv 4)
 refine CallI_run m258First (call280 (spec280 hc hE ho hbs h4 (fun w he h=>k0 w he ?_) fun e val w he hv h=>k1 e val w he hv ?_))
 ·exact(rkShut h1 h2 (((((h.mv 2).mv 1).mv 4).mv 4).mv 4)).t1
 ·exact(rkShut h1 h2 (((((h.mv 2).mv 1).mv 4).mv 4).mv 4)).t1
theorem itNext {D}{p q nn:Addr}{data offs uk offs' tombs:Sl}{tr:Int}{fmt}{bs:List Nat}{E:List EntM}{l:List SpanM}{j:Nat}{R w}{K:Option Addr×Sl×Option Addr->WP}(hc:Cont D data bs)(hE:EntAt D offs E)(ho: ∀e∈E,EntOK bs e)(hbs:bs.length<2^32)(hj:j<E.length)(hEn:E.length<2^32)
  (h:Sat w (Arr p (itcs q data offs (j:Int) uk tr)::rkC nn q fmt data offs' tombs D l::Own D::R))
  (k0: ∀uk tr w',j+1=E.length->Sat w' (Arr p (itcs q data offs ((j+1:Nat):Int) uk tr)::rkC nn q fmt data offs' tombs D l::Own D::R)->K (none,⟨none,0,0⟩,none) w')
  (k1: ∀e val w',E[j+1]? =some e->ValAt D val e.op->Sat w' (Arr p (itcs q data offs ((j+1:Nat):Int) (e.key data) (e.tr:Int))::rkC nn q fmt data offs' tombs D l::Own D::R)->K (some (p.add 5),val,none) w'):CallI Tryz.prog (itV p).enc "Next" [] [(.one .ptr),(.agg [.sl,.ptr])] K w:=by
 obtain⟨xs,rks,h1,h2,h3⟩:=rkOpen h.t1
 have h4:Sat w (Arr p (itcs q data offs (j:Int) uk tr)::Arr q (fbc fmt data offs' tombs rks)::Own D::Buf 4 rks (xs.flatMap spc)::Arr nn [.pointer (some q)]::R):=(((((h3.mv 2).mv 2).mv 4).mv 3).mv 4)
 refine CallI_run m258Next (call282 (spec282 hc hE ho hbs hj hEn h4 (fun uk tr w he h=>k0 uk tr w he ?_) fun e val w he hv h=>k1 e val w he hv ?_))
 ·exact(rkShut h1 h2 (((((h.mv 2).mv 1).mv 4).mv 4).mv 4)).t1
 ·exact(rkShut h1 h2 (((((h.mv 2).mv 1).mv 4).mv 4).mv 4)).t1
def spanOf (e:EntM):SpanM:=⟨e.op.key,e.op.end_,[⟨(e.tr:Int),rkSuf e.op.kind e.op.suf,rkV e.op.kind e.op.val⟩]⟩
theorem rowAbs {D:Hp}{kp:Addr}{x:KC}{m:KeyM}{L w}(h1:x.1=m.tr)(h2:BytesAt D x.2.1 m.suf)(h3:BytesAt D x.2.2 m.val)(h:Sat w (Own D::Arr kp (kcells x)::L)): ∃G:Hp,D.le G/\KeysAt G ⟨some kp,1,1⟩ [m]/\Sat w (Own G::L):=by
 obtain⟨G,g,hg,l1,l2,h4⟩:=Sat.absorb h
 refine⟨G,l1,⟨[x],⟨rfl,fun j k e=>?_⟩,⟨⟨h1,h2.mono l1,h3.mono l1⟩,trivial⟩⟩,h4⟩
 have hj:j=0:=by
  have:=(List.getElem?_eq_some_iff.1 e).1
  simp only[List.length_singleton]at this
  omega
 subst hj
 injection e with e
 subst e
 refine⟨kp,rfl,fun i v hv=>?_⟩
 rw[Addr.add_add,Nat.zero_mul,Nat.zero_add]
 exact⟨false,l2 _ _ (hg.1 i v hv)⟩
structure RKC where
 D0:Hp
 p:Addr
 q:Addr
 nn:Addr
 f:Addr
 fmt:FV
 data:Sl
 offs:Sl
 offs':Sl
 tombs:Sl
 bs:List Nat
 E:List EntM
structure RKCOK (c:RKC):Prop where
 hc:Cont c.D0 c.data c.bs
 hE:EntAt c.D0 c.offs c.E
 ho: ∀e∈c.E,EntOK c.bs e
 hbs:c.bs.length<2^32
 kind: ∀e∈c.E,e.op.kind=19\/e.op.kind=20\/e.op.kind=21
 so: ∀(i j:Nat) (x y:EntM),i<j->c.E[i]? =some x->c.E[j]? =some y->bcmp x.op.key y.op.key<=0
 nd:(c.E.map fun e=>(e.tr:Int)).Nodup
 n:c.E.length<2^15
 i: ∀e∈c.E,e.i<2^32
def RKCs (c:RKC):EmitI:=emitRK c.nn c.q c.fmt c.data c.offs' c.tombs
structure RKAt (c:RKC)(R:List Chunk)(j:Nat)(z:Sl×Option Addr×Addr)(w:World)(D:Hp)(s:FrS)(fkb:ByteArray)(out:List SpanM)(xs:List SpC)(ps:List SpanM)(x0:ByteArray)(kp:Addr)(rest:List Value)(uk:Sl)(tr:Int)(val:Sl):Prop where
 le:c.D0.le D
 ok:FrOK D s fkb ((c.E.take j).map spanOf) out xs ps x0
 jn:j<=c.E.length
 kn:z.1.n=0
 kc:z.1.c=c.E.length-j
 ka:j<c.E.length->z.1.a=some kp
 rl:rest.length=3*(c.E.length-j)
 cur:j<c.E.length->z.2.1=some (c.p.add 5)/\ ∃e,c.E[j]? =some e/\uk=e.key c.data/\tr=(e.tr:Int)/\ValAt D val e.op/\bcmp x0 e.op.key<=0
 fin:j=c.E.length->z.2.1=none
 sat:Sat w (FX c.f (RKCs c) s fkb D out xs (Arr c.p (itcs c.q c.data c.offs (j:Int) uk tr)::Arr z.2.2 [.slice val.a val.n val.c,.pointer none]::Arr kp rest::R))
def RKInv (c:RKC)(R:List Chunk)(m:Nat)(z:Sl×Option Addr×Addr)(w:World):Prop:= ∃j D s fkb out xs ps x0 kp rest uk tr val,m=c.E.length-j/\RKAt c R j z w D s fkb out xs ps x0 kp rest uk tr val
theorem take_keys {E:List EntM}{j:Nat}:(((E.take j).map spanOf).flatMap (·.keys)).map (·.tr)=(E.take j).map fun e=>(e.tr:Int):=by
 induction E.take j with
 |nil=>rfl
 |cons e l ih=>rw[List.map_cons,List.flatMap_cons,List.map_append,ih];rfl
theorem take_keys_len {E:List EntM}{j:Nat}:(((E.take j).map spanOf).flatMap (·.keys)).length<=E.length:=by
 have h:=congrArg List.length (take_keys (E:=E) (j:=j))
 rw[List.length_map,List.length_map,List.length_take]at h
 omega
set_option maxHeartbeats 4000000 in
theorem body92 {c:RKC}{R}{j:Nat}{z:Sl×Option Addr×Addr}{w D}{s:FrS}{fkb:ByteArray}{out:List SpanM}{xs:List SpC}{ps:List SpanM}{x0:ByteArray}{kp n4:Addr}{rest:List Value}{val y:Sl}{x:KC}{e:EntM}{K:IV->WP}{next8:(Sl×Option Addr×Addr)->WP}
  (hok:RKCOK c) (hj:j<c.E.length) (he:c.E[j]? =some e) (hle:c.D0.le D) (hfr:FrOK D s fkb ((c.E.take j).map spanOf) out xs ps x0) (hx0:bcmp x0 e.op.key<=0) (hrl:rest.length=3*(c.E.length-j-1))
  (hx1:x.1=(e.tr:Int)) (hx2:BytesAt D x.2.1 (rkSuf e.op.kind e.op.suf)) (hx3:BytesAt D x.2.2 (rkV e.op.kind e.op.val)) (hy:Cont D y (bl e.op.end_))
  (h : Sat w (Own D :: Arr kp (kcells x) :: Arr n4 [.slice none 0 0, .slice none 0 0, .slice none 0 0, .int .i8 (0 : Int)] :: Arr (kp.add 3) rest :: Arr c.f [cmpV, s.fmt.enc, (RKCs c).em.enc, .slice s.pend.a s.pend.n s.pend.c, .slice s.done.a s.done.n s.done.c] :: Arr (c.f.add 5) [s.sbc.enc, .slice s.sbuf.a s.sbuf.n s.sbuf.c] :: Arr (c.f.add 7) [.slice s.fb.a s.fb.n s.fb.c] :: Arr (c.f.add 8) [.slice s.fk.a s.fk.n s.fk.c] :: Arr (c.f.add 9) [.bool s.fin] :: Buf 3 s.fb s.fbc :: (RKCs c).C D out ::
   Buf 4 s.pend (xs.flatMap spc)::Buf 4 s.done []::Buf 1 s.fk (bytesOf fkb)::Arr c.p (itcs c.q c.data c.offs (j:Int) (e.key c.data) (e.tr:Int))::Arr z.2.2 [.slice val.a val.n val.c,.pointer none]::R))
  (hnext: ∀z w,RKInv c R (c.E.length-(j+1)) z w->next8 z w):B92 (some c.f) (itV c.p) K next8 z n4 ((e.key c.data,y,⟨some kp,1,c.E.length-j⟩,0),.nil) w:=by
 obtain⟨hc,hE,ho,hbs,hkind,hso,hnd,hn,hi⟩:=hok
 have hem:=List.mem_of_getElem? he
 have heo:=ho e hem
 obtain⟨G,l1,hks,h⟩:=rowAbs (m:=⟨(e.tr:Int),rkSuf e.op.kind e.op.suf,rkV e.op.kind e.op.val⟩) hx1 hx2 hx3 h
 have h2:Sat w ((RKCs c).C G out::Own G::Arr n4 [.slice none 0 0,.slice none 0 0,.slice none 0 0,.int .i8 (0:Int)]::Arr (kp.add 3) rest::Arr c.f [cmpV,s.fmt.enc,(RKCs c).em.enc,.slice s.pend.a s.pend.n s.pend.c,.slice s.done.a s.done.n s.done.c]::Arr (c.f.add 5) [s.sbc.enc,.slice s.sbuf.a s.sbuf.n s.sbuf.c]::Arr (c.f.add 7) [.slice s.fb.a s.fb.n s.fb.c]::Arr (c.f.add 8) [.slice s.fk.a s.fk.n s.fk.c]::Arr (c.f.add 9) [.bool s.fin]::Buf 3 s.fb s.fbc::
   Buf 4 s.pend (xs.flatMap spc)::Buf 4 s.done []::Buf 1 s.fk (bytesOf fkb)::Arr c.p (itcs c.q c.data c.offs (j:Int) (e.key c.data) (e.tr:Int))::Arr z.2.2 [.slice val.a val.n val.c,.pointer none]::R):=(h.mv 9).cons fun g hg=>(RKCs c).mono l1 hg
 have h:=h2.pt 9
 clear h2
 simp only[pt]at h
 unfold B92
 refine StL_of ?_
 have h3:Sat w (Arr n4 [.slice none 0 0,.slice none 0 0,.slice none 0 0,.int .i8 (0:Int)]::Own G::Arr (kp.add 3) rest::Arr c.f [cmpV,s.fmt.enc,(RKCs c).em.enc,.slice s.pend.a s.pend.n s.pend.c,.slice s.done.a s.done.n s.done.c]::Arr (c.f.add 5) [s.sbc.enc,.slice s.sbuf.a s.sbuf.n s.sbuf.c]::Arr (c.f.add 7) [.slice s.fb.a s.fb.n s.fb.c]::Arr (c.f.add 8) [.slice s.fk.a s.fk.n s.fk.c]::Arr (c.f.add 9) [.bool s.fin]::Buf 3 s.fb s.fbc::(RKCs c).C G out::
   Buf 4 s.pend (xs.flatMap spc)::Buf 4 s.done []::Buf 1 s.fk (bytesOf fkb)::Arr c.p (itcs c.q c.data c.offs (j:Int) (e.key c.data) (e.tr:Int))::Arr z.2.2 [.slice val.a val.n val.c,.pointer none]::R):=h.t1
 clear h
 refine St1 h3 rfl fun w h=>St1 h rfl fun w h=>St1 h rfl fun w h=>St1 h rfl fun w h=>?_
 clear h3
 simp only[StC]
 refine⟨IsI_enc _,ifn (fun hh=>Bool.noConfusion (show true=false from hh)) fun _=>?_⟩
 refine Ld1 h (Ld1 h ⟨⟨by dsimp only;omega,by dsimp only;omega⟩,Ld1 h (Ld1 h (Ld1 h ⟨⟨by dsimp only;omega,by dsimp only;omega,by dsimp only;omega⟩,St1 h rfl fun w h=>?_⟩))⟩)
 dsimp only at h|-
 refine LdN h ?_
 have h4:Sat w (FX c.f (RKCs c) s fkb G out xs (Arr c.p (itcs c.q c.data c.offs (j:Int) (e.key c.data) (e.tr:Int))::Arr z.2.2 [.slice val.a val.n val.c,.pointer none]::Arr (kp.add 3) rest::Arr n4 [.slice (e.key c.data).a (e.key c.data).n (e.key c.data).c,.slice y.a y.n y.c,.slice (some kp) 1 1,.int .i8 (0:Int)]::R)):=by
  have h5:=h.t1
  exact(((((((((((((((h5.mv 1).mv 2).mv 14).mv 14).mv 14).mv 14).mv 14).mv 14).mv 8).mv 14).mv 14).mv 14).mv 14).mv 14).mv 14)
 clear h
 have hkc:Cont G c.data c.bs:=(hc.mono hle).mono l1
 have hsp:SpRel G ⟨e.key c.data,y,⟨some kp,1,1⟩⟩ (spanOf e):=⟨⟨(hkc.keyAt heo).bytes,(hkc.keyAt heo).sm⟩,⟨(hy.mono l1).bytes,hy.sm⟩,hks⟩
 have hz1:=heo.op.key
 have hz2:=heo.op.end_
 have hss1:((((c.E.take j).map spanOf).flatMap (·.keys)).map (·.tr)).Nodup:=by rw[take_keys];exact(List.Sublist.map _ (List.take_sublist _ _)).nodup hnd
 refine call73 (s2:=(e.key c.data,y,⟨some kp,1,1⟩,0)) ?_
 refine spec73 (x:=⟨e.key c.data,y,⟨some kp,1,1⟩⟩) (sp:=spanOf e) (hfr.mono l1) hsp hx0 ⟨by show e.op.key.size<_;omega,by show e.op.end_.size<_;omega⟩ (covK_nd hss1) (Nat.lt_of_le_of_lt take_keys_len om) (by rw[List.length_map,List.length_take];omega) h4 ?_
 intro D' s' fkb' out' xs' ps' x0' w hD' hfr' hx0' h
 clear h4
 unfold FX FL at h
 refine LdN h ?_
 refine NewP_run h fun n w h=>?_
 refine StL_of (St1 h rfl fun w h=>St1 h rfl fun w h=>?_)
 simp only[StC]
 have hss:(c.E.take j).map spanOf++[spanOf e]=(c.E.take (j+1)).map spanOf:=by
  rw[List.take_add_one,he,List.map_append];rfl
 rw[hss]at hfr'
 have hD2:=(hle.trans l1).trans hD'
 have h5:Sat w (Arr c.p (itcs c.q c.data c.offs (j:Int) (e.key c.data) (e.tr:Int))::rkC c.nn c.q c.fmt c.data c.offs' c.tombs D' out'::Own D'::Arr n [.slice val.a val.n val.c,.pointer none]::Arr c.f [cmpV,s'.fmt.enc,(RKCs c).em.enc,.slice s'.pend.a s'.pend.n s'.pend.c,.slice s'.done.a s'.done.n s'.done.c]::Arr (c.f.add 5) [s'.sbc.enc,.slice s'.sbuf.a s'.sbuf.n s'.sbuf.c]::Arr (c.f.add 7) [.slice s'.fb.a s'.fb.n s'.fb.c]::Arr (c.f.add 8) [.slice s'.fk.a s'.fk.n s'.fk.c]::Arr (c.f.add 9) [.bool s'.fin]::Buf 3 s'.fb s'.fbc::
   Buf 4 s'.pend (xs'.flatMap spc)::Buf 4 s'.done []::Buf 1 s'.fk (bytesOf fkb')::Arr z.2.2 [.slice val.a val.n val.c,.pointer none]::Arr (kp.add 3) rest::Arr n4 [.slice (e.key c.data).a (e.key c.data).n (e.key c.data).c,.slice y.a y.n y.c,.slice (some kp) 1 1,.int .i8 (0:Int)]::R):=
  ((((((((((((((((h.mv 15).mv 15).mv 15).mv 14).mv 14).mv 14).mv 12).mv 12).mv 12).mv 12).mv 12).mv 12).mv 12).mv 13).mv 14).mv 15)
 clear h
 have hkb: ∀{zz:Nat},j+1<c.E.length->(sub (some kp) 3 1 1 (c.E.length-j)).a=some (kp.add 3):=fun hlt=>by
  unfold sub
  rw[if_neg om];rfl
 refine itNext (hc.mono hD2) (hE.mono hD2) ho hbs hj om h5 (fun uk' tr' w hje h=>?_) (fun e' v' w he' hv' h=>?_)
 ·refine StL_of (St1 h rfl fun w h=>St1 h rfl fun w h=>?_)
  simp only[StC]
  refine hnext _ w ⟨j+1,D',s',fkb',out',xs',ps',x0',kp.add 3,rest,uk',tr',⟨none,0,0⟩,rfl,⟨hD2,hfr',by omega,rfl,by dsimp only;omega,fun hlt=>by omega,by omega,fun hlt=>by omega,fun _=>rfl,?_⟩⟩
  exact Sat.drop 2 ((((((((((((((((h.mv 14).mv 4).mv 2).mv 13).mv 13).mv 13).mv 6).mv 7).mv 13).mv 13).mv 13).mv 13).mv 13).mv 13).mv 15).mv 15)
 ·have hj2:=(List.getElem?_eq_some_iff.1 he').1
  refine StL_of (St1 h rfl fun w h=>St1 h rfl fun w h=>?_)
  simp only[StC]
  refine hnext _ w ⟨j+1,D',s',fkb',out',xs',ps',x0',kp.add 3,rest,e'.key c.data,(e'.tr:Int),v',rfl,⟨hD2,hfr',by omega,rfl,by dsimp only;omega,fun hlt=>hkb (zz:=0) hlt,by omega,fun hlt=>⟨rfl,e',he',rfl,rfl,hv',bcmp_trans hx0' (hso j (j+1) e e' om he he')⟩,fun hlt=>by omega,?_⟩⟩
  exact Sat.drop 2 ((((((((((((((((h.mv 14).mv 4).mv 2).mv 13).mv 13).mv 13).mv 6).mv 7).mv 13).mv 13).mv 13).mv 13).mv 13).mv 13).mv 15).mv 15)
theorem spec27 {lz:Addr}{val:Sl}{L R w}{K:Sl->WP}(h:Sat w L)(t:Take L (Arr lz [.slice val.a val.n val.c,.pointer none]) R)(k:Sat w L->K val w):F27 (some lz) K w:=by
 unfold F27
 refine⟨fun _ w'=>w'=w,?_,rfl⟩
 rintro _ w' rfl
 exact⟨_,rfl,LdC ((h.rdL t) 0 _ rfl) (k h)⟩
theorem opVal_rk {o:OpM}(hk:o.kind=19\/o.kind=20\/o.kind=21):opVal o=some (rkVal o.kind o.end_ o.suf o.val):=by
 unfold opVal rkVal
 rcases hk with hk|hk|hk<;>rw[hk]<;>simp
theorem tr_kind (e:EntM)(h:e.op.kind<=23):e.tr%256=e.op.kind:=by unfold EntM.tr;omega
def RD (c:RKC)(j:Nat)(z:Sl×Option Addr×Addr)(D:Hp)(s:FrS)(fkb:ByteArray)(out:List SpanM)(xs:List SpC)(e:EntM)(val:Sl)(R:List Chunk):List Chunk:=
 Arr c.f [cmpV,s.fmt.enc,(RKCs c).em.enc,.slice s.pend.a s.pend.n s.pend.c,.slice s.done.a s.done.n s.done.c]::Arr (c.f.add 5) [s.sbc.enc,.slice s.sbuf.a s.sbuf.n s.sbuf.c]::Arr (c.f.add 7) [.slice s.fb.a s.fb.n s.fb.c]::Arr (c.f.add 8) [.slice s.fk.a s.fk.n s.fk.c]::Arr (c.f.add 9) [.bool s.fin]::Buf 3 s.fb s.fbc::(RKCs c).C D out::
   Buf 4 s.pend (xs.flatMap spc)::Buf 4 s.done []::Buf 1 s.fk (bytesOf fkb)::Arr c.p (itcs c.q c.data c.offs (j:Int) (e.key c.data) (e.tr:Int))::Arr z.2.2 [.slice val.a val.n val.c,.pointer none]::R
theorem row3 {kp:Addr}{rest:List Value}{n:Nat}{L w}(hl:rest.length=3*n)(hn:1<=n)(h:Sat w (Arr kp rest::L)): ∃r1 r2,r1.length=3/\r2.length=3*(n-1)/\Sat w (Arr kp r1::Arr (kp.add 3) r2::L):=by
 refine⟨rest.take 3,rest.drop 3,by rw[List.length_take];omega,by rw[List.length_drop];omega,?_⟩
 rw[<-List.take_append_drop 3 rest]at h
 have h1:=h.split
 rw[show(rest.take 3).length=3 by rw[List.length_take];omega]at h1
 exact h1
theorem round92 {c:RKC}{R}{j:Nat}{z:Sl×Option Addr×Addr}{w D}{s:FrS}{fkb:ByteArray}{out:List SpanM}{xs:List SpC}{ps:List SpanM}{x0:ByteArray}{kp:Addr}{r1 r2:List Value}{val:Sl}{e:EntM}{K:IV->WP}{next8:(Sl×Option Addr×Addr)->WP}
  (hok:RKCOK c) (hj:j<c.E.length) (he:c.E[j]? =some e) (hle:c.D0.le D) (hfr:FrOK D s fkb ((c.E.take j).map spanOf) out xs ps x0) (hx0:bcmp x0 e.op.key<=0) (hr1:r1.length=3) (hr2:r2.length=3*(c.E.length-j-1)) (hval:ValAt D val e.op)
  (hnext: ∀z w,RKInv c R (c.E.length-(j+1)) z w->next8 z w) (n4:Addr)
  (h:Sat w (Own D::Arr kp r1::Arr n4 [.slice none 0 0,.slice none 0 0,.slice none 0 0,.int .i8 (0:Int)]::Arr (kp.add 3) r2::RD c j z D s fkb out xs e val R)):
  CallF Tryz.prog 70 [.agg #[.slice (e.key c.data).a (e.key c.data).n (e.key c.data).c,.int .u64 (e.tr:Int)],.slice val.a val.n val.c,.slice (some kp) 0 (c.E.length-j)] [(.agg [.sl,.sl,.sl,.int .i8]),(.one .ifc)] (fun rr w=>B92 (some c.f) (itV c.p) K next8 z n4 rr w) w:=by
 have hem:=List.mem_of_getElem? he
 have heo:=(hok.ho e hem).op
 have hkind:=hok.kind e hem
 have hi:=hok.i e hem
 have hk23:e.op.kind<=23:=by omega
 have hval':Cont D val (rkVal e.op.kind e.op.end_ e.op.suf e.op.val):=by
  unfold ValAt at hval
  rw[opVal_rk hkind]at hval
  exact hval
 have hvn:val.n<2^40:=by
  rw[hval'.n]
  have:=opVal_len heo (opVal_rk hkind)
  omega
 have z1:=heo.end_
 have z2:=heo.suf
 have z3:=heo.val
 refine call70 (ik1:=(e.key c.data,(e.tr:Int))) (v2:=val) (keysDst3:=⟨some kp,0,c.E.length-j⟩) ?_
 refine spec70 (D:=D) (kp:=kp) (row:=r1) (kind:=e.op.kind) (tr:=e.tr) (e:=e.op.end_) (sb:=e.op.suf) (xb:=e.op.val) hkind (tr_kind e hk23) (by unfold EntM.tr;omega) hr1 om om om om hval' hvn h ?_
 intro x y w hx1 hx2 hx3 hy h
 exact body92 (x:=x) (y:=y) hok hj he hle hfr hx0 hr2 hx1 hx2 hx3 hy h hnext
theorem round92' {c:RKC}{R}{j:Nat}{z:Sl×Option Addr×Addr}{w D}{s:FrS}{fkb:ByteArray}{out:List SpanM}{xs:List SpC}{ps:List SpanM}{x0:ByteArray}{kp:Addr}{r1 r2:List Value}{val:Sl}{e:EntM}{K:IV->WP}{next8:(Sl×Option Addr×Addr)->WP}
  (hok:RKCOK c) (hj:j<c.E.length) (he:c.E[j]? =some e) (hle:c.D0.le D) (hfr:FrOK D s fkb ((c.E.take j).map spanOf) out xs ps x0) (hx0:bcmp x0 e.op.key<=0) (hr1:r1.length=3) (hr2:r2.length=3*(c.E.length-j-1)) (hval:ValAt D val e.op)
  (hnext: ∀z w,RKInv c R (c.E.length-(j+1)) z w->next8 z w)
  (h:Sat w (Own D::Arr kp r1::Arr (kp.add 3) r2::RD c j z D s fkb out xs e val R)):
  CallF Tryz.prog 70 [.agg #[.slice (e.key c.data).a (e.key c.data).n (e.key c.data).c,.int .u64 (e.tr:Int)],.slice val.a val.n val.c,.slice (some kp) 0 (c.E.length-j)] [(.agg [.sl,.sl,.sl,.int .i8]),(.one .ifc)] (fun rr w=>NewP [.slice none 0 0,.slice none 0 0,.slice none 0 0,.int .i8 (0:Int)] 113 (fun n4 w=>B92 (some c.f) (itV c.p) K next8 z n4 rr w) w) w:=by
 have hem:=List.mem_of_getElem? he
 have heo:=(hok.ho e hem).op
 have hkind:=hok.kind e hem
 have hi:=hok.i e hem
 have hk23:e.op.kind<=23:=by omega
 have hval':Cont D val (rkVal e.op.kind e.op.end_ e.op.suf e.op.val):=by
  unfold ValAt at hval
  rw[opVal_rk hkind]at hval
  exact hval
 have hvn:val.n<2^40:=by
  rw[hval'.n]
  have:=opVal_len heo (opVal_rk hkind)
  omega
 have z1:=heo.end_
 have z2:=heo.suf
 have z3:=heo.val
 refine call70 (ik1:=(e.key c.data,(e.tr:Int))) (v2:=val) (keysDst3:=⟨some kp,0,c.E.length-j⟩) ?_
 refine spec70 (D:=D) (kp:=kp) (row:=r1) (kind:=e.op.kind) (tr:=e.tr) (e:=e.op.end_) (sb:=e.op.suf) (xb:=e.op.val) hkind (tr_kind e hk23) (by unfold EntM.tr;omega) hr1 om om om om hval' hvn h ?_
 intro x y w hx1 hx2 hx3 hy h
 exact NewP_run h fun n4 w h=>body92 (x:=x) (y:=y) hok hj he hle hfr hx0 hr2 hx1 hx2 hx3 hy (h.pt 2) hnext
theorem LdAtN {l:List S}{w w1 L}{p:Addr}{x:dens l}(h:Sat w L)[Near w w1][i:HasL L p l x]:LdAt (.agg l) p x w1:=i.rd w1 h.near
theorem zrep109 (n:Nat):(zrep si109.l n).length=3*n:=by
 unfold zrep
 induction n with
 |zero=>rfl
 |succ n ih=>rw[List.replicate_succ,List.flatten_cons,List.length_append,ih];show 3+_=_;omega
set_option maxHeartbeats 4000000 in
theorem loop92 {c:RKC}{R}{m0:Nat}{z0:Sl×Option Addr×Addr}{w:World}{K:IV->WP}(hok:RKCOK c)(hinv:RKInv c R m0 z0 w)(k: ∀D' out' w',c.D0.le D'->SpansOK out'->(∀y,(keysOf out' y).Perm (covK (c.E.map spanOf) y))->out'.length<=(c.E.length+1)*(c.E.length+1)->Sat w' (Own D'::(RKCs c).C D' out'::R)->K .nil w'):
  Tr.Loop (fun(next8:(Sl×Option Addr×Addr)->WP) (s7:Sl×Option Addr×Addr) w=>(if(!(s7.2.1).isNone)=true then∃p9,s7.2.1=some p9/\Ld (.agg [.sl,.int .u64]) p9 (fun(x10:Sl×Int) w=>(CallF Tryz.prog 27 [.pointer (some s7.2.2)] [(.one .sl)] (fun(r11:Sl) w=>LdAt (.agg [.sl,.int .u64]) p9 x10 w/\(CallF Tryz.prog 70 [.agg #[.slice x10.1.a x10.1.n x10.1.c,.int .u64 x10.2],.slice r11.a r11.n r11.c,.slice s7.1.a s7.1.n s7.1.c] [(.agg [.sl,.sl,.sl,.int .i8]),(.one .ifc)] (fun(r12:(Sl×Sl×Sl×Int)×IV) w=>NewP [.slice none 0 0,.slice none 0 0,.slice none 0 0,.int .i8 (0:Int)] 113 (fun(n13:Addr) w=>B92 (some c.f) (itV c.p) K next8 s7 n13 r12 w) w) w)/\(NewP [.slice none 0 0,.slice none 0 0,.slice none 0 0,.int .i8 (0:Int)] 113 (fun(n25:Addr) w=>LdAt (.agg [.sl,.int .u64]) p9 x10 w/\CallF Tryz.prog 70 [.agg #[.slice x10.1.a x10.1.n x10.1.c,.int .u64 x10.2],.slice r11.a r11.n r11.c,.slice s7.1.a s7.1.n s7.1.c] [(.agg [.sl,.sl,.sl,.int .i8]),(.one .ifc)] (fun(r26:(Sl×Sl×Sl×Int)×IV) w=>B92 (some c.f) (itV c.p) K next8 s7 n25 r26 w) w) w)) w)/\(NewP [.slice none 0 0,.slice none 0 0,.slice none 0 0,.int .i8 (0:Int)] 113 (fun(n38:Addr) w=>LdAt (.agg [.sl,.int .u64]) p9 x10 w/\CallF Tryz.prog 27 [.pointer (some s7.2.2)] [(.one .sl)] (fun(r39:Sl) w=>LdAt (.agg [.sl,.int .u64]) p9 x10 w/\CallF Tryz.prog 70 [.agg #[.slice x10.1.a x10.1.n x10.1.c,.int .u64 x10.2],.slice r39.a r39.n r39.c,.slice s7.1.a s7.1.n s7.1.c] [(.agg [.sl,.sl,.sl,.int .i8]),(.one .ifc)] (fun(r40:(Sl×Sl×Sl×Int)×IV) w=>B92 (some c.f) (itV c.p) K next8 s7 n38 r40 w) w) w) w)) w.drew else CallF Tryz.prog 74 [.pointer (some c.f)] [] (fun(r52:Unit) w=>decI .nilIface (fun i53=>K i53 w)) w)) z0 w:=by
 have hn:=hok.n
 refine⟨fun m z w=>RKInv c R m z w,⟨m0,hinv⟩,?_⟩
 clear hinv
 rintro m z w ⟨j,D,s,fkb,out,xs,ps,x0,kp,rest,uk,tr,val,rfl,hat⟩
 obtain⟨hle,hfr,hjn,hkn,hkc,hka,hrl,hcur,hfin,h⟩:=hat
 by_cases hj:j<c.E.length
 ·obtain⟨hz1,e,he,rfl,rfl,hval,hx0⟩:=hcur hj
  have hka1:=hka hj
  clear hka hcur hfin
  have hnext: ∀z w,RKInv c R (c.E.length-(j+1)) z w-> ∃m',m'<c.E.length-j/\RKInv c R m' z w:=fun z w h=>⟨_,by omega,h⟩
  obtain⟨⟨ka,kn,kc⟩,zi,lz⟩:=z
  dsimp only at hkn hkc hka1 hz1 h
  subst hkn hkc hka1 hz1
  refine ifNSome ⟨_,rfl,?_⟩
  unfold FX FL at h
  have h0:=h
  unfold itcs at h0
  refine LdN h0 ?_
  clear h0
  have hrow:=row3 (n:=c.E.length-j) hrl om (h.mv 13)
  obtain⟨r1,r2,hr1,hr2,h2⟩:=hrow
  have h3:Sat w (Own D::Arr kp r1::Arr (kp.add 3) r2::RD c j (⟨some kp,0,c.E.length-j⟩,some (c.p.add 5),lz) D s fkb out xs e val R):=(((((((((((((((h2.mv 14).mv 14).mv 14).mv 14).mv 14).mv 14).mv 13).mv 13).mv 13).mv 13).mv 13).mv 13).mv 13).mv 13).mv 14)
  clear h h2
  replace h3:=h3.near (w':=w.drew)
  have hld: ∀{w},Sat w (Own D::Arr kp r1::Arr (kp.add 3) r2::RD c j (⟨some kp,0,c.E.length-j⟩,some (c.p.add 5),lz) D s fkb out xs e val R)->LdAt (.agg [.sl,.int .u64]) (c.p.add 5) (e.key c.data,(e.tr:Int)) w:=fun h=>by
   unfold RD itcs at h
   exact LdAtN h
  have htk: ∀{L0:List Chunk},Take (Own D::Arr kp r1::Arr (kp.add 3) r2::RD c j (⟨some kp,0,c.E.length-j⟩,some (c.p.add 5),lz) D s fkb out xs e val R) (Arr lz [.slice val.a val.n val.c,.pointer none]) _:=fun {_}=>.there .k13
  refine⟨call27 (spec27 h3 (htk (L0:=[])) fun h3=>⟨hld h3,?_,?_⟩),?_⟩
  ·exact round92' hok hj he hle hfr hx0 hr1 om hval hnext h3
  ·exact NewP_run h3 fun n4 w h=>⟨hld h.tail,round92 hok hj he hle hfr hx0 hr1 om hval hnext n4 (h.pt 2)⟩
  ·exact NewP_run h3 fun n4 w h=>⟨hld h.tail,call27 (spec27 h (.there (htk (L0:=[]))) fun h=>⟨hld h.tail,round92 hok hj he hle hfr hx0 hr1 om hval hnext n4 (h.pt 2)⟩)⟩
 ·have hje:j=c.E.length:=by omega
  have hz:=hfin hje
  rw[hz]
  refine ifNNone ?_
  have htake:c.E.take j=c.E:=by rw[hje,List.take_length]
  rw[htake]at hfr
  have hnd1:(((c.E.map spanOf).flatMap (·.keys)).map (·.tr)).Nodup:=by
   have h1:=take_keys (E:=c.E) (j:=j)
   rw[htake]at h1
   rw[h1];exact hok.nd
  have hkl1:((c.E.map spanOf).flatMap (·.keys)).length<2^30:=by
   have h1:=take_keys_len (E:=c.E) (j:=j)
   rw[htake]at h1
   omega
  refine call74 (spec74 hfr (covK_nd hnd1) hkl1 (by rw[List.length_map];omega) h fun D' out' w hD h1 h2 h3 h=>decI_nil ?_)
  exact k D' out' w (hle.trans hD) h1 h2 (by rw[List.length_map]at h3;exact h3) ((h.mv 4).tail|>fun h=>(h.mv 3).tail|>fun h=>(h.mv 2).tail)
set_option maxHeartbeats 4000000 in
theorem spec92 {c:RKC}{R}{s:FrS}{w}{K:IV->WP}(hok:RKCOK c)(hne:c.E≠ [])(hfr:FrOK c.D0 s .empty [] [] [] [] .empty)(h:Sat w (FX c.f (RKCs c) s .empty c.D0 [] [] (Arr c.p (itcs c.q c.data c.offs (-1) ⟨none,0,0⟩ 0)::R)))
  (k: ∀D' out' w',c.D0.le D'->SpansOK out'->(∀y,(keysOf out' y).Perm (covK (c.E.map spanOf) y))->out'.length<=(c.E.length+1)*(c.E.length+1)->Sat w' (Own D'::(RKCs c).C D' out'::R)->K .nil w'):F92 (some c.f) (itV c.p) (c.E.length:Int) K w:=by
 have hn:=hok.n
 unfold F92
 refine MakeP_run h ⟨by omega,by omega,by show(56:Int)*_<=_;omega,by omega⟩ fun m w h=>?_
 have hml:=zrep109 (Int.toNat (c.E.length:Int))
 rw[Int.toNat_natCast]at hml h
 generalize zrep si109.l c.E.length=rest at hml h
 unfold FX FL at h
 have h1:=(((((((((((((h.mv 11).mv 11).mv 11).mv 9).mv 9).mv 9).mv 9).mv 9).mv 9).mv 9).mv 10).mv 11).mv 12)
 clear h
 refine itFirst hok.hc hok.hE hok.ho hok.hbs h1 (fun w he h=>?_) (fun e v w he hv h=>?_)
 ·exact absurd he hne
 ·have hpos:=(List.getElem?_eq_some_iff.1 he).1
  refine NewP_run h fun n w h=>StL_of (St1 h rfl fun w h=>St1 h rfl fun w h=>?_)
  simp only[StC]
  refine loop92 (R:=R) (m0:=c.E.length) hok ⟨0,c.D0,s,.empty,[],[],[],.empty,m,rest,e.key c.data,(e.tr:Int),v,rfl,Hp.le_refl _,hfr,by omega,rfl,rfl,fun hlt=>rfl,hml,fun hlt=>⟨rfl,e,he,rfl,rfl,hv,empty_le _⟩,fun h0=>by omega,?_⟩ k
  exact((((((((((((((h.mv 4).mv 1).mv 2).mv 13).mv 13).mv 13).mv 6).mv 7).mv 13).mv 13).mv 13).mv 13).mv 13).mv 13)
def tdC (nn q:Addr)(fmt:FV)(data offs tombs:Sl)(D:Hp)(l:List SpanM):Chunk:=fun g=> ∃(xs:List SpC) (rks:Sl),SpsRel D xs l/\rks.n=xs.length/\Star (Arr q (fbc fmt data offs rks tombs)) (Star (Buf 4 rks (xs.flatMap spc)) (Arr nn [.pointer (some q)])) g
theorem tdOpen {nn q:Addr}{fmt}{data offs tombs:Sl}{D}{l:List SpanM}{L w}(h:Sat w (tdC nn q fmt data offs tombs D l::L)): ∃(xs:List SpC) (rks:Sl),SpsRel D xs l/\rks.n=xs.length/\Sat w (Arr q (fbc fmt data offs rks tombs)::Buf 4 rks (xs.flatMap spc)::Arr nn [.pointer (some q)]::L):=by
 obtain⟨g,⟨xs,rks,h1,h2,h3⟩,hg⟩:=h
 refine⟨xs,rks,h1,h2,?_⟩
 have h4:Sat w (Star (Arr q (fbc fmt data offs rks tombs)) (Star (Buf 4 rks (xs.flatMap spc)) (Arr nn [.pointer (some q)]))::L):=⟨g,h3,hg⟩
 exact(Sat.star.1 (Sat.star.1 h4).t1).t2
theorem tdShut {nn q:Addr}{fmt}{data offs tombs rks:Sl}{D}{l:List SpanM}{xs:List SpC}{L w}(h1:SpsRel D xs l)(h2:rks.n=xs.length)(h:Sat w (Arr q (fbc fmt data offs rks tombs)::Buf 4 rks (xs.flatMap spc)::Arr nn [.pointer (some q)]::L)):Sat w (tdC nn q fmt data offs tombs D l::L):=by
 have h3:Sat w (Star (Buf 4 rks (xs.flatMap spc)) (Arr nn [.pointer (some q)])::Arr q (fbc fmt data offs rks tombs)::L):=Sat.star.2 ((h.mv 2).mv 2)
 have h4:=Sat.star.2 h3.t1
 exact h4.cons fun g hg=>⟨xs,rks,h1,h2,hg⟩
theorem emit_runT {D}{nn q n3:Addr}{fmt}{data offs tombs:Sl}{l:List SpanM}{x:SpC}{s:SpanM}{R}{w:World}{K:Unit->WP}(hx:SpRel D x s)(hl:l.length<2^32)(h:Sat w (Arr n3 (spc x)::Own D::tdC nn q fmt data offs tombs D l::R))(k: ∀w',Sat w' (Own D::tdC nn q fmt data offs tombs D (l++[s])::R)->K () w'):
  Ld (.one .ptr) nn (fun(x4:Option Addr) w=>Ld (.one .ptr) nn (fun(x5:Option Addr) w=> ∃p6,x5=some p6/\Ld (.one .sl) (p6.add 5) (fun(rangeKeys7:Sl) w=>Ld (.agg [.sl,.sl,.sl,.int .i8]) n3 (fun(x8:Sl×Sl×Sl×Int) w=>
   NewS [.slice x8.1.a x8.1.n x8.1.c,.slice x8.2.1.a x8.2.1.n x8.2.1.c,.slice x8.2.2.1.a x8.2.2.1.n x8.2.2.1.c,.int .i8 x8.2.2.2] 113 1 (fun(l9:Sl) w=>
   LdAt (.one .sl) (p6.add 5) rangeKeys7 w/\LdAt (.one .ptr) nn x5 w/\LdAt (.one .ptr) nn x4 w/\AppP si193 rangeKeys7 l9 (fun(a10:Sl) w=>LdAt (.one .ptr) nn x4 w/\ ∃p11,x4=some p11/\St (p11.add 5) (.slice a10.a a10.n a10.c) (fun w=>K () w) w) w) w) w) w) w) w.drew:=by
 obtain⟨xs,rks,h1,h2,h3⟩:=tdOpen ((h.mv 2):Sat w (tdC nn q fmt data offs tombs D l::Arr n3 (spc x)::Own D::R))
 clear h
 have hlen:=h1.len
 have h:=h3
 unfold fbc spc at h
 refine Ld1 h (Ld1 h ⟨_,rfl,Ld1 h (LdN h (NewS_run h fun l9 w h=>⟨LdAt1 h,LdAt1 h,LdAt1 h,?_⟩))⟩)
 have h':Sat w (Arr l9 (spc x)::Arr q (fbc fmt data offs rks tombs)::Buf 4 rks (xs.flatMap spc)::Arr nn [.pointer (some q)]::Arr n3 (spc x)::Own D::R):=h
 refine App1 (k:=4) rfl h' .k2 .here rfl (spc_one x) ?_ (by dsimp only;omega) fun r w er ea h=>?_
 ·show(2*(rks.n+1)+1024)*80<=_
  omega
 unfold fbc at h
 refine⟨LdAt1 h,_,rfl,St1 h rfl fun w h=>k w ?_⟩
 have e1:(xs++([x]:List SpC)).flatMap spc=xs.flatMap spc++spc x:=by simp[List.flatMap_append]
 have h5:Sat w (Arr q (fbc fmt data offs r tombs)::Buf 4 r ((xs++[x]).flatMap spc)::Arr nn [.pointer (some q)]::Own D::R):=by
  rw[e1]
  exact((((h.t1.tail).mv 3).tail).t1)
 exact(tdShut (h1.app (show SpsRel D [x] [s]from⟨hx,trivial⟩)) (by rw[er,h2,List.length_append];rfl) h5).mv 1
def emitTD (nn q:Addr)(fmt:FV)(data offs tombs:Sl):EmitI where
 em:=.mk (.func 89) #[] #[.pointer (some nn)]
 C:=tdC nn q fmt data offs tombs
 mono:=fun hd ⟨xs,rks,h1,h2,h3⟩=>⟨xs,rks,h1.mono hd,h2,h3⟩
 run:=fun {D l x s R w K} hx _ hl h k=>by
  refine CallV_run' (call89 (s1:=(x.lo,x.hi,x.ks,0)) (a2:=nn) ?_)
  unfold F89
  refine NewP_run h fun n3 w h=>?_
  exact emit_runT hx hl h k
theorem itFirstT {D}{p q nn:Addr}{data offs uk offs' tombs:Sl}{idx tr:Int}{fmt}{bs:List Nat}{E:List EntM}{l:List SpanM}{R w}{K:Option Addr×Sl×Option Addr->WP}(hc:Cont D data bs)(hE:EntAt D offs E)(ho: ∀e∈E,EntOK bs e)(hbs:bs.length<2^32)
  (h:Sat w (Arr p (itcs q data offs idx uk tr)::tdC nn q fmt data offs' tombs D l::Own D::R))
  (k0: ∀w',E=[]->Sat w' (Arr p (itcs q data offs idx uk tr)::tdC nn q fmt data offs' tombs D l::Own D::R)->K (none,⟨none,0,0⟩,none) w')
  (k1: ∀e val w',E[0]? =some e->ValAt D val e.op->Sat w' (Arr p (itcs q data offs ((0:Nat):Int) (e.key data) (e.tr:Int))::tdC nn q fmt data offs' tombs D l::Own D::R)->K (some (p.add 5),val,none) w'):CallI Tryz.prog (itV p).enc "First" [] [(.one .ptr),(.agg [.sl,.ptr])] K w:=by
 obtain⟨xs,rks,h1,h2,h3⟩:=tdOpen h.t1
 have h4:Sat w (Arr p (itcs q data offs idx uk tr)::Arr q (fbc fmt data offs' rks tombs)::Own D::Buf 4 rks (xs.flatMap spc)::Arr nn [.pointer (some q)]::R):=(((((h3.mv 2).mv 2).mv 4).mv 3).mv 4)
 refine CallI_run m258First (call280 (spec280 (tombs:=rks) (rks:=tombs) hc hE ho hbs h4 (fun w he h=>k0 w he ?_) fun e val w he hv h=>k1 e val w he hv ?_))
 ·exact(tdShut h1 h2 (((((h.mv 2).mv 1).mv 4).mv 4).mv 4)).t1
 ·exact(tdShut h1 h2 (((((h.mv 2).mv 1).mv 4).mv 4).mv 4)).t1
theorem itNextT {D}{p q nn:Addr}{data offs uk offs' tombs:Sl}{tr:Int}{fmt}{bs:List Nat}{E:List EntM}{l:List SpanM}{j:Nat}{R w}{K:Option Addr×Sl×Option Addr->WP}(hc:Cont D data bs)(hE:EntAt D offs E)(ho: ∀e∈E,EntOK bs e)(hbs:bs.length<2^32)(hj:j<E.length)(hEn:E.length<2^32)
  (h:Sat w (Arr p (itcs q data offs (j:Int) uk tr)::tdC nn q fmt data offs' tombs D l::Own D::R))
  (k0: ∀uk tr w',j+1=E.length->Sat w' (Arr p (itcs q data offs ((j+1:Nat):Int) uk tr)::tdC nn q fmt data offs' tombs D l::Own D::R)->K (none,⟨none,0,0⟩,none) w')
  (k1: ∀e val w',E[j+1]? =some e->ValAt D val e.op->Sat w' (Arr p (itcs q data offs ((j+1:Nat):Int) (e.key data) (e.tr:Int))::tdC nn q fmt data offs' tombs D l::Own D::R)->K (some (p.add 5),val,none) w'):CallI Tryz.prog (itV p).enc "Next" [] [(.one .ptr),(.agg [.sl,.ptr])] K w:=by
 obtain⟨xs,rks,h1,h2,h3⟩:=tdOpen h.t1
 have h4:Sat w (Arr p (itcs q data offs (j:Int) uk tr)::Arr q (fbc fmt data offs' rks tombs)::Own D::Buf 4 rks (xs.flatMap spc)::Arr nn [.pointer (some q)]::R):=(((((h3.mv 2).mv 2).mv 4).mv 3).mv 4)
 refine CallI_run m258Next (call282 (spec282 (tombs:=rks) (rks:=tombs) hc hE ho hbs hj hEn h4 (fun uk tr w he h=>k0 uk tr w he ?_) fun e val w he hv h=>k1 e val w he hv ?_))
 ·exact(tdShut h1 h2 (((((h.mv 2).mv 1).mv 4).mv 4).mv 4)).t1
 ·exact(tdShut h1 h2 (((((h.mv 2).mv 1).mv 4).mv 4).mv 4)).t1
def spanOfT (e:EntM):SpanM:=⟨e.op.key,e.op.end_,[⟨(e.tr:Int),.empty,.empty⟩]⟩
theorem spec133 {D}{kp:Addr}{row:List Value}{kc:Nat}{uk v:Sl}{tr:Nat}{R w}{K:Sl×Sl×Sl×Int->WP}(hrow:row.length=3)(hkc:1<=kc)(h:Sat w (Own D::Arr kp row::R))
  (k: ∀(x:KC) w',x.1=(tr:Int)->BytesAt D x.2.1 .empty->BytesAt D x.2.2 .empty->Sat w' (Own D::Arr kp (kcells x)::R)->K (uk,v,⟨some kp,1,kc⟩,0) w'):F133 (uk,(tr:Int)) v ⟨some kp,0,kc⟩ K w:=by
 obtain⟨r0,r1,r2,rfl⟩: ∃r0 r1 r2,row=[r0,r1,r2]:=by
  match row,hrow with
  | [a,b,c],_=>exact⟨a,b,c,rfl⟩
 unfold F133
 refine NewP_run h fun n4 w h=>NewP_run h fun n5 w h=>?_
 refine Ld1 h (Ld1 h (NewS_run h fun l w h=>⟨LdAt1 h,?_⟩))
 refine AppP_inD (a:=kp) (new:=[.int .u64 (tr:Int),.slice none 0 0,.slice none 0 0]) rfl (by dsimp only;omega) ⟨rfl,h.rdL .here⟩ ?_
 show StL kp _ _ _
 refine StL_of (St1 h rfl fun w h=>St1 h rfl fun w h=>St1 h rfl fun w h=>?_)
 simp only[StC]
 refine⟨LdAt1 h,StL_of (St1 h rfl fun w h=>St1 h rfl fun w h=>St1 h rfl fun w h=>St1 h rfl fun w h=>?_)⟩
 simp only[StC]
 refine LdN h ?_
 exact k ((tr:Int),⟨none,0,0⟩,⟨none,0,0⟩) w rfl BytesAt_nil BytesAt_nil h.tail.tail.tail
structure TDCOK (c:RKC):Prop where
 hc:Cont c.D0 c.data c.bs
 hE:EntAt c.D0 c.offs c.E
 ho: ∀e∈c.E,EntOK c.bs e
 hbs:c.bs.length<2^32
 kind: ∀e∈c.E,e.op.kind=15
 so: ∀(i j:Nat) (x y:EntM),i<j->c.E[i]? =some x->c.E[j]? =some y->bcmp x.op.key y.op.key<=0
 nd:(c.E.map fun e=>(e.tr:Int)).Nodup
 n:c.E.length<2^15
 i: ∀e∈c.E,e.i<2^32
def TDCs (c:RKC):EmitI:=emitTD c.nn c.q c.fmt c.data c.offs' c.tombs
structure TDAt (c:RKC)(R:List Chunk)(j:Nat)(z:Sl×Option Addr×Addr)(w:World)(D:Hp)(s:FrS)(fkb:ByteArray)(out:List SpanM)(xs:List SpC)(ps:List SpanM)(x0:ByteArray)(kp:Addr)(rest:List Value)(uk:Sl)(tr:Int)(val:Sl):Prop where
 le:c.D0.le D
 ok:FrOK D s fkb ((c.E.take j).map spanOfT) out xs ps x0
 jn:j<=c.E.length
 kn:z.1.n=0
 kc:z.1.c=c.E.length-j
 ka:j<c.E.length->z.1.a=some kp
 rl:rest.length=3*(c.E.length-j)
 cur:j<c.E.length->z.2.1=some (c.p.add 5)/\ ∃e,c.E[j]? =some e/\uk=e.key c.data/\tr=(e.tr:Int)/\ValAt D val e.op/\bcmp x0 e.op.key<=0
 fin:j=c.E.length->z.2.1=none
 sat:Sat w (FX c.f (TDCs c) s fkb D out xs (Arr c.p (itcs c.q c.data c.offs (j:Int) uk tr)::Arr z.2.2 [.slice val.a val.n val.c,.pointer none]::Arr kp rest::R))
def TDInv (c:RKC)(R:List Chunk)(m:Nat)(z:Sl×Option Addr×Addr)(w:World):Prop:= ∃j D s fkb out xs ps x0 kp rest uk tr val,m=c.E.length-j/\TDAt c R j z w D s fkb out xs ps x0 kp rest uk tr val
theorem take_keysT {E:List EntM}{j:Nat}:(((E.take j).map spanOfT).flatMap (·.keys)).map (·.tr)=(E.take j).map fun e=>(e.tr:Int):=by
 induction E.take j with
 |nil=>rfl
 |cons e l ih=>rw[List.map_cons,List.flatMap_cons,List.map_append,ih];rfl
theorem take_keysT_len {E:List EntM}{j:Nat}:(((E.take j).map spanOfT).flatMap (·.keys)).length<=E.length:=by
 have h:=congrArg List.length (take_keysT (E:=E) (j:=j))
 rw[List.length_map,List.length_map,List.length_take]at h
 omega
set_option maxHeartbeats 4000000 in
theorem body90 {c:RKC}{R}{j:Nat}{z:Sl×Option Addr×Addr}{w D}{s:FrS}{fkb:ByteArray}{out:List SpanM}{xs:List SpC}{ps:List SpanM}{x0:ByteArray}{kp n4:Addr}{rest:List Value}{val y:Sl}{x:KC}{e:EntM}{K:Unit->WP}{next8:(Sl×Option Addr×Addr)->WP}
  (hok:TDCOK c) (hj:j<c.E.length) (he:c.E[j]? =some e) (hle:c.D0.le D) (hfr:FrOK D s fkb ((c.E.take j).map spanOfT) out xs ps x0) (hx0:bcmp x0 e.op.key<=0) (hrl:rest.length=3*(c.E.length-j-1))
  (hx1:x.1=(e.tr:Int)) (hx2:BytesAt D x.2.1 .empty) (hx3:BytesAt D x.2.2 .empty) (hy:Cont D y (bl e.op.end_))
  (h : Sat w (Own D :: Arr kp (kcells x) :: Arr n4 [.slice none 0 0, .slice none 0 0, .slice none 0 0, .int .i8 (0 : Int)] :: Arr (kp.add 3) rest :: Arr c.f [cmpV, s.fmt.enc, (TDCs c).em.enc, .slice s.pend.a s.pend.n s.pend.c, .slice s.done.a s.done.n s.done.c] :: Arr (c.f.add 5) [s.sbc.enc, .slice s.sbuf.a s.sbuf.n s.sbuf.c] :: Arr (c.f.add 7) [.slice s.fb.a s.fb.n s.fb.c] :: Arr (c.f.add 8) [.slice s.fk.a s.fk.n s.fk.c] :: Arr (c.f.add 9) [.bool s.fin] :: Buf 3 s.fb s.fbc :: (TDCs c).C D out ::
   Buf 4 s.pend (xs.flatMap spc)::Buf 4 s.done []::Buf 1 s.fk (bytesOf fkb)::Arr c.p (itcs c.q c.data c.offs (j:Int) (e.key c.data) (e.tr:Int))::Arr z.2.2 [.slice val.a val.n val.c,.pointer none]::R))
  (hnext: ∀z w,TDInv c R (c.E.length-(j+1)) z w->next8 z w):B90 (some c.f) (itV c.p) K next8 z n4 (e.key c.data,y,⟨some kp,1,c.E.length-j⟩,0) w:=by
 obtain⟨hc,hE,ho,hbs,hkind,hso,hnd,hn,hi⟩:=hok
 have hem:=List.mem_of_getElem? he
 have heo:=ho e hem
 obtain⟨G,l1,hks,h⟩:=rowAbs (m:=⟨(e.tr:Int),.empty,.empty⟩) hx1 hx2 hx3 h
 have h2:Sat w ((TDCs c).C G out::Own G::Arr n4 [.slice none 0 0,.slice none 0 0,.slice none 0 0,.int .i8 (0:Int)]::Arr (kp.add 3) rest::Arr c.f [cmpV,s.fmt.enc,(TDCs c).em.enc,.slice s.pend.a s.pend.n s.pend.c,.slice s.done.a s.done.n s.done.c]::Arr (c.f.add 5) [s.sbc.enc,.slice s.sbuf.a s.sbuf.n s.sbuf.c]::Arr (c.f.add 7) [.slice s.fb.a s.fb.n s.fb.c]::Arr (c.f.add 8) [.slice s.fk.a s.fk.n s.fk.c]::Arr (c.f.add 9) [.bool s.fin]::Buf 3 s.fb s.fbc::
   Buf 4 s.pend (xs.flatMap spc)::Buf 4 s.done []::Buf 1 s.fk (bytesOf fkb)::Arr c.p (itcs c.q c.data c.offs (j:Int) (e.key c.data) (e.tr:Int))::Arr z.2.2 [.slice val.a val.n val.c,.pointer none]::R):=(h.mv 9).cons fun g hg=>(TDCs c).mono l1 hg
 have h:=h2.pt 9
 clear h2
 simp only[pt]at h
 unfold B90
 refine StL_of ?_
 have h3:Sat w (Arr n4 [.slice none 0 0,.slice none 0 0,.slice none 0 0,.int .i8 (0:Int)]::Own G::Arr (kp.add 3) rest::Arr c.f [cmpV,s.fmt.enc,(TDCs c).em.enc,.slice s.pend.a s.pend.n s.pend.c,.slice s.done.a s.done.n s.done.c]::Arr (c.f.add 5) [s.sbc.enc,.slice s.sbuf.a s.sbuf.n s.sbuf.c]::Arr (c.f.add 7) [.slice s.fb.a s.fb.n s.fb.c]::Arr (c.f.add 8) [.slice s.fk.a s.fk.n s.fk.c]::Arr (c.f.add 9) [.bool s.fin]::Buf 3 s.fb s.fbc::(TDCs c).C G out::
   Buf 4 s.pend (xs.flatMap spc)::Buf 4 s.done []::Buf 1 s.fk (bytesOf fkb)::Arr c.p (itcs c.q c.data c.offs (j:Int) (e.key c.data) (e.tr:Int))::Arr z.2.2 [.slice val.a val.n val.c,.pointer none]::R):=h.t1
 clear h
 refine St1 h3 rfl fun w h=>St1 h rfl fun w h=>St1 h rfl fun w h=>St1 h rfl fun w h=>?_
 clear h3
 simp only[StC]
 refine Ld1 h (Ld1 h ⟨⟨by dsimp only;omega,by dsimp only;omega⟩,Ld1 h (Ld1 h (Ld1 h ⟨⟨by dsimp only;omega,by dsimp only;omega,by dsimp only;omega⟩,St1 h rfl fun w h=>?_⟩))⟩)
 dsimp only at h|-
 refine LdN h ?_
 have h4:Sat w (FX c.f (TDCs c) s fkb G out xs (Arr c.p (itcs c.q c.data c.offs (j:Int) (e.key c.data) (e.tr:Int))::Arr z.2.2 [.slice val.a val.n val.c,.pointer none]::Arr (kp.add 3) rest::Arr n4 [.slice (e.key c.data).a (e.key c.data).n (e.key c.data).c,.slice y.a y.n y.c,.slice (some kp) 1 1,.int .i8 (0:Int)]::R)):=by
  have h5:=h.t1
  exact(((((((((((((((h5.mv 1).mv 2).mv 14).mv 14).mv 14).mv 14).mv 14).mv 14).mv 8).mv 14).mv 14).mv 14).mv 14).mv 14).mv 14)
 clear h
 have hkc:Cont G c.data c.bs:=(hc.mono hle).mono l1
 have hsp:SpRel G ⟨e.key c.data,y,⟨some kp,1,1⟩⟩ (spanOfT e):=⟨⟨(hkc.keyAt heo).bytes,(hkc.keyAt heo).sm⟩,⟨(hy.mono l1).bytes,hy.sm⟩,hks⟩
 have hz1:=heo.op.key
 have hz2:=heo.op.end_
 have hss1:((((c.E.take j).map spanOfT).flatMap (·.keys)).map (·.tr)).Nodup:=by rw[take_keysT];exact(List.Sublist.map _ (List.take_sublist _ _)).nodup hnd
 refine call73 (s2:=(e.key c.data,y,⟨some kp,1,1⟩,0)) ?_
 refine spec73 (x:=⟨e.key c.data,y,⟨some kp,1,1⟩⟩) (sp:=spanOfT e) (hfr.mono l1) hsp hx0 ⟨by show e.op.key.size<_;omega,by show e.op.end_.size<_;omega⟩ (covK_nd hss1) (Nat.lt_of_le_of_lt take_keysT_len om) (by rw[List.length_map,List.length_take];omega) h4 ?_
 intro D' s' fkb' out' xs' ps' x0' w hD' hfr' hx0' h
 clear h4
 unfold FX FL at h
 refine LdN h ?_
 refine NewP_run h fun n w h=>?_
 refine StL_of (St1 h rfl fun w h=>St1 h rfl fun w h=>?_)
 simp only[StC]
 have hss:(c.E.take j).map spanOfT++[spanOfT e]=(c.E.take (j+1)).map spanOfT:=by
  rw[List.take_add_one,he,List.map_append];rfl
 rw[hss]at hfr'
 have hD2:=(hle.trans l1).trans hD'
 have h5:Sat w (Arr c.p (itcs c.q c.data c.offs (j:Int) (e.key c.data) (e.tr:Int))::tdC c.nn c.q c.fmt c.data c.offs' c.tombs D' out'::Own D'::Arr n [.slice val.a val.n val.c,.pointer none]::Arr c.f [cmpV,s'.fmt.enc,(TDCs c).em.enc,.slice s'.pend.a s'.pend.n s'.pend.c,.slice s'.done.a s'.done.n s'.done.c]::Arr (c.f.add 5) [s'.sbc.enc,.slice s'.sbuf.a s'.sbuf.n s'.sbuf.c]::Arr (c.f.add 7) [.slice s'.fb.a s'.fb.n s'.fb.c]::Arr (c.f.add 8) [.slice s'.fk.a s'.fk.n s'.fk.c]::Arr (c.f.add 9) [.bool s'.fin]::Buf 3 s'.fb s'.fbc::
   Buf 4 s'.pend (xs'.flatMap spc)::Buf 4 s'.done []::Buf 1 s'.fk (bytesOf fkb')::Arr z.2.2 [.slice val.a val.n val.c,.pointer none]::Arr (kp.add 3) rest::Arr n4 [.slice (e.key c.data).a (e.key c.data).n (e.key c.data).c,.slice y.a y.n y.c,.slice (some kp) 1 1,.int .i8 (0:Int)]::R):=
  ((((((((((((((((h.mv 15).mv 15).mv 15).mv 14).mv 14).mv 14).mv 12).mv 12).mv 12).mv 12).mv 12).mv 12).mv 12).mv 13).mv 14).mv 15)
 clear h
 have hkb: ∀{zz:Nat},j+1<c.E.length->(sub (some kp) 3 1 1 (c.E.length-j)).a=some (kp.add 3):=fun hlt=>by
  unfold sub
  rw[if_neg om];rfl
 refine itNextT (hc.mono hD2) (hE.mono hD2) ho hbs hj om h5 (fun uk' tr' w hje h=>?_) (fun e' v' w he' hv' h=>?_)
 ·refine StL_of (St1 h rfl fun w h=>St1 h rfl fun w h=>?_)
  simp only[StC]
  refine hnext _ w ⟨j+1,D',s',fkb',out',xs',ps',x0',kp.add 3,rest,uk',tr',⟨none,0,0⟩,rfl,⟨hD2,hfr',by omega,rfl,by dsimp only;omega,fun hlt=>by omega,by omega,fun hlt=>by omega,fun _=>rfl,?_⟩⟩
  exact Sat.drop 2 ((((((((((((((((h.mv 14).mv 4).mv 2).mv 13).mv 13).mv 13).mv 6).mv 7).mv 13).mv 13).mv 13).mv 13).mv 13).mv 13).mv 15).mv 15)
 ·have hj2:=(List.getElem?_eq_some_iff.1 he').1
  refine StL_of (St1 h rfl fun w h=>St1 h rfl fun w h=>?_)
  simp only[StC]
  refine hnext _ w ⟨j+1,D',s',fkb',out',xs',ps',x0',kp.add 3,rest,e'.key c.data,(e'.tr:Int),v',rfl,⟨hD2,hfr',by omega,rfl,by dsimp only;omega,fun hlt=>hkb (zz:=0) hlt,by omega,fun hlt=>⟨rfl,e',he',rfl,rfl,hv',bcmp_trans hx0' (hso j (j+1) e e' om he he')⟩,fun hlt=>by omega,?_⟩⟩
  exact Sat.drop 2 ((((((((((((((((h.mv 14).mv 4).mv 2).mv 13).mv 13).mv 13).mv 6).mv 7).mv 13).mv 13).mv 13).mv 13).mv 13).mv 13).mv 15).mv 15)
end Go.Proofs.YtpkoddfamelnhaaGreatDoor
