/- Part 29 of the proof of fnBatchHistory_card. Conditions: none. -/
import Derived.Test.YtpkoddfamelnhaaGreatDoorH28
import Derived.Test.YtpkoddfamelnhaaGreatDoorRows
import Derived.WalkKit
import Derived.ProofKit
import Derived.LaidMore
import Derived.OpenShut
import Derived.ShutString
import Derived.ChangeOld
import Derived.Below
import Derived.Carry
import Derived.SizedLaws
import Derived.Stop.Joined
set_option linter.unusedVariables false
set_option linter.unusedSimpArgs false
namespace Go.Proofs.YtpkoddfamelnhaaGreatDoor
open Go Go.Tr
set_option maxRecDepth 100000
def memD (W:World):Hp:=fun a=>(W.cell? a).map fun v=>(v,W.frozen? a)
theorem memD_sat (W:World):Sat W [Own (memD W)]:=by
 refine⟨memD W,rfl,fun a v e=>?_,trivial⟩
 unfold memD at e
 cases h:W.cell? a with
 |none=>rw[h]at e;cases e
 |some x=>
  rw[h]at e
  injection e with e
  subst e
  exact⟨rfl,rfl,fun h=>h⟩
theorem memD_at {W:World}{a:Addr}{v:Value}(h:W.cell? a=some v):DAt (memD W) a v:=⟨W.frozen? a,by unfold memD;rw[h];rfl⟩
theorem below_of {W w':World}(h:Ext W w')(hs:Sat w' [Own (memD W)]):Go.RowKit.Below W.heap.size W w':=by
 refine⟨h.os,h.tape,h.output,h.size,fun k hk=>?_⟩
 obtain⟨o,ho⟩: ∃o,W.heap[k]? =some o:=⟨_,Array.getElem?_eq_getElem hk⟩
 obtain⟨o',ho',hl⟩:=h.block k o ho
 rw[ho,ho']
 congr 1
 cases o with
 | cells c t fr =>
  cases o' with
  | cells c' t' fr' =>
   obtain⟨rfl,rfl,hsz⟩:=hl
   congr 1
   refine Array.ext hsz fun i h1 h2=>?_
   have hc:W.cell? ⟨k,i,none⟩=some c[i]:=by
    unfold World.cell?
    dsimp only
    rw[ho]
    simp[h2]
   have:=hs.dat .here (memD_at hc)
   unfold World.cell? at this
   dsimp only at this
   rw[ho']at this
   simp[h1]at this
   exact this
  |_=>exact hl
 |_=>
  cases o'<;>first|exact hl|exact hl.symm▸rfl
theorem mapM_range {α:Type}{f:Nat->Option α}: ∀{n:Nat} {cs:List α},(List.range n).mapM f=some cs->cs.length=n/\ ∀i,i<n->f i=cs[i]? :=by
 intro n cs h
 have h1:=mapM_some_length h
 refine⟨by simpa using h1,fun i hi=>mapM_some_get h i i (by simp[hi])⟩
section
variable {H : Type} {enc : TypeId × Value → H} {W : World}
theorem cells_at {base:Nat}{a:Addr}{n:Nat}{cs:List Value}(h:W.cells? base a n=some cs):cs.length=n/\ ∀i x,cs[i]? =some x->W.cell? (a.add i)=some x:=by
 unfold World.cells? at h
 split at h
 ·obtain⟨h1,h2⟩:=mapM_range h
  refine⟨h1,fun i x e=>?_⟩
  have hi:i<n:=by rw[<-h1];exact(List.getElem?_eq_some_iff.1 e).1
  rw[h2 i hi];exact e
 ·cases h
theorem cells69 :Tryz.prog.cellsOf 69=6:=by kernel_rfl
theorem cells1 :Tryz.prog.cellsOf 5=1/\Tryz.prog.cellsOf 9=1/\Tryz.prog.cellsOf 67=1:=⟨by kernel_rfl,by kernel_rfl,by kernel_rfl⟩
theorem open_op {base:Nat}{sp:Nat->Bool}{held:Bool}{n:Nat}{cs:List Value}{y:DataW H×List MemPlace}(h:DataW.trod enc Tryz.prog W base sp held n 69 cs=some y): ∃o:OpM,cs=oc o/\o.size<2^32:=by
 obtain⟨xs,m,_,_,hl,hxl,hf⟩:=DataW.trod_struct Tryz.underlying69 h
 rw[cells69]at hl
 have hx: ∀i,i<6-> ∃x,xs[i]? =some x:=fun i hi=>⟨_,List.getElem?_eq_getElem (by rw[hxl];exact hi)⟩
 obtain⟨c0,c1,c2,c3,c4,c5,rfl⟩: ∃c0 c1 c2 c3 c4 c5,cs=[c0,c1,c2,c3,c4,c5]:=by
  match cs,hl with
  | [c0,c1,c2,c3,c4,c5],_=>exact⟨c0,c1,c2,c3,c4,c5,rfl⟩
 obtain⟨x0,e0⟩:=hx 0 om
 obtain⟨x1,e1⟩:=hx 1 om
 obtain⟨x2,e2⟩:=hx 2 om
 obtain⟨x3,e3⟩:=hx 3 om
 obtain⟨x4,e4⟩:=hx 4 om
 obtain⟨x5,e5⟩:=hx 5 om
 have f0:DataW.trod enc Tryz.prog W base sp held m 5 (([c0,c1,c2,c3,c4,c5].drop 0).take (Tryz.prog.cellsOf 5))=some x0:=(hf 0 _ rfl).trans e0
 have f1:DataW.trod enc Tryz.prog W base sp held m 9 (([c0,c1,c2,c3,c4,c5].drop 1).take (Tryz.prog.cellsOf 9))=some x1:=(hf 1 _ rfl).trans e1
 have f2:DataW.trod enc Tryz.prog W base sp held m 9 (([c0,c1,c2,c3,c4,c5].drop 2).take (Tryz.prog.cellsOf 9))=some x2:=(hf 2 _ rfl).trans e2
 have f3:DataW.trod enc Tryz.prog W base sp held m 9 (([c0,c1,c2,c3,c4,c5].drop 3).take (Tryz.prog.cellsOf 9))=some x3:=(hf 3 _ rfl).trans e3
 have f4:DataW.trod enc Tryz.prog W base sp held m 9 (([c0,c1,c2,c3,c4,c5].drop 4).take (Tryz.prog.cellsOf 9))=some x4:=(hf 4 _ rfl).trans e4
 have f5:DataW.trod enc Tryz.prog W base sp held m 67 (([c0,c1,c2,c3,c4,c5].drop 5).take (Tryz.prog.cellsOf 67))=some x5:=(hf 5 _ rfl).trans e5
 rw[cells1.1]at f0
 rw[cells1.2.1]at f1 f2 f3 f4
 rw[cells1.2.2]at f5
 obtain⟨n0,g0,_,w0⟩:=DataW.trod_int Tryz.underlying5 f0
 obtain⟨s1,g1,_,_⟩:=DataW.trod_string Tryz.underlying9 f1
 obtain⟨s2,g2,_,_⟩:=DataW.trod_string Tryz.underlying9 f2
 obtain⟨s3,g3,_,_⟩:=DataW.trod_string Tryz.underlying9 f3
 obtain⟨s4,g4,_,_⟩:=DataW.trod_string Tryz.underlying9 f4
 obtain⟨n5,g5,_,w5⟩:=DataW.trod_int Tryz.underlying67 f5
 simp only[List.drop_zero,List.drop_succ_cons,List.take_succ_cons,List.take_zero,List.cons.injEq,and_true]at g0 g1 g2 g3 g4 g5
 subst g0 g1 g2 g3 g4 g5
 have r0:=(Go.bounds_u8 w0).1
 have r5:=Go.bounds_u32 w5
 refine⟨⟨n0.toNat,s1,s2,s3,s4,n5.toNat⟩,?_,by show n5.toNat<_;omega⟩
 unfold oc
 dsimp only
 rw[Int.toNat_of_nonneg r0,Int.toNat_of_nonneg r5.1]
theorem choose_list {α:Type}{n:Nat}{p:Nat->α->Prop}(h: ∀i,i<n-> ∃x,p i x): ∃l:List α,l.length=n/\ ∀i x,l[i]? =some x->p i x:=by
 induction n with
 |zero=>exact⟨[],rfl,fun i x e=>by simp at e⟩
 | succ n ih =>
  obtain⟨l,h1,h2⟩:=ih fun i hi=>h i om
  obtain⟨x,hx⟩:=h n om
  refine⟨l++[x],by simp[h1],fun i y e=>?_⟩
  by_cases hi:i<l.length
  ·rw[List.getElem?_append_left hi]at e;exact h2 i y e
  ·rw[List.getElem?_append_right om]at e
   have:i=n:=by
    have:=(List.getElem?_eq_some_iff.1 e).1
    simp at this;omega
   subst this
   rw[<-h1,Nat.sub_self]at e
   simp at e
   rw[<-e];exact hx
theorem open_opsD {base:Nat}{sp:Nat->Bool}{held:Bool}{n:Nat}{a:Option Addr}{m c:Nat}{y:DataW H×List MemPlace}(h:DataW.trod enc Tryz.prog W base sp held n 22 [.slice a m c]=some y):
  ∃l:List OpM,m=l.length/\(∀o∈l,o.size<2^32)/\ ∀(j:Nat) (o:OpM),l[j]? =some o-> ∃e,a=some e/\ ∀i x,(oc o)[i]? =some x->W.cell? ((e.add (j*6)).add i)=some x:=by
 rcases DataW.trod_slice Tryz.underlying22 h with⟨h0,_⟩|⟨e,len,cap,elems,rest,k,_,hcs,_,_,_,_,hlen,hel,_⟩
 ·simp only[List.cons.injEq,Value.slice.injEq,and_true]at h0
  obtain⟨rfl,rfl,rfl⟩:=h0
  exact⟨[],rfl,fun o ho=>by simp at ho,fun j o e=>by simp at e⟩
 ·simp only[List.cons.injEq,Value.slice.injEq,and_true]at hcs
  obtain⟨rfl,rfl,rfl⟩:=hcs
  have hx: ∀i,i<m-> ∃o:OpM,o.size<2^32/\ ∀k x,(oc o)[k]? =some x->W.cell? ((e.add (i*6)).add k)=some x:=by
   intro i hi
   have h1:=hel i hi
   rw[cells69,List.getElem?_eq_getElem om,Option.bind_eq_some_iff]at h1
   obtain⟨cs,hc,ht⟩:=h1
   obtain⟨o,rfl,ho⟩:=open_op ht
   exact⟨o,ho,(cells_at hc).2⟩
  obtain⟨l,h1,h2⟩:=choose_list hx
  refine⟨l,h1.symm,fun o ho=>?_,fun j o e9=>⟨e,rfl,(h2 j o e9).2⟩⟩
  obtain⟨i,hi,e9⟩:=List.getElem_of_mem ho
  exact(h2 i o (by rw[List.getElem?_eq_getElem hi,e9])).1
end
theorem opsIn_of {W:World}{a:Option Addr}{m c:Nat}{l:List OpM}(hm:m=l.length)(h: ∀(j:Nat) (o:OpM),l[j]? =some o-> ∃e,a=some e/\ ∀i x,(oc o)[i]? =some x->W.cell? ((e.add (j*6)).add i)=some x):OpsIn [Own (memD W)] ⟨a,m,c⟩ l:=by
 refine⟨hm,fun w hs j o e=>?_⟩
 obtain⟨e,he,hr⟩:=h j o e
 exact⟨e,he,fun i x hx=>hs.dat .here (memD_at (hr i x hx))⟩
open Go Go.Tr Go.ChangeShapes Go.WideShapes Go.ChangeAt Go.RowKit
theorem own :ownKnob Tryz.prog.godebug=none:=by kernel_rfl
theorem laidOut :laidOutB Tryz.prog=true:=by kernel_rfl
abbrev laid3 :List (String×DataW Unit):=[("pub-tessella/pub/pebble/inner/base.ErrCorruption",Rows.laid_pub_tessella_pub_pebble_inner_base_ErrCorruption),("pub-tessella/pub/pebble.ErrInvalidBatch",Rows.laid_pub_tessella_pub_pebble_ErrInvalidBatch),("pub-tessella/pub/pebble.ErrBatchTooLarge",Rows.laid_pub_tessella_pub_pebble_ErrBatchTooLarge)]
theorem door_met (os:Os)(args:Array Value):laidMetH Tryz.prog laid3 ((World.doorLaid Tryz.prog 400 os).forCall (fun _ _=>0) ⟨#[],args,[]⟩).memory:=
 laidMetH_of_parts3 (fuel:=8) (laidMet_of_run' 8 (by kernel_rfl) (by kernel_rfl)) (by kernel_rfl) (by kernel_rfl)
theorem bl_byte (s:ByteArray): ∀y∈bl s,y<256:=fun y hs=>by
 unfold bl at hs
 obtain⟨b,_,rfl⟩:=List.mem_map.1 hs
 exact b.toNat_lt
theorem vb_byte (s:ByteArray): ∀y∈vb s,y<256:=fun y hs=>by
 rcases List.mem_append.1 hs with h|h
 ·exact vi_byte _ y h
 ·exact bl_byte s y h
def rkB (kind:Nat)(e s v:ByteArray):ByteArray:=⟨((rkVal kind e s v).map UInt8.ofNat).toArray⟩
theorem rkB_bl (kind:Nat)(e s v:ByteArray):bl (rkB kind e s v)=rkVal kind e s v:=by
 refine bl_mk _ fun y hy=>?_
 unfold rkVal at hy
 split at hy
 ·exact bl_byte e y hy
 ·split at hy
  ·rcases List.mem_append.1 hy with h|h
   ·exact vb_byte _ y h
   ·exact vb_byte _ y h
  ·rcases List.mem_append.1 hy with h|h
   ·exact vb_byte _ y h
   ·rcases List.mem_append.1 h with h|h
    ·exact vb_byte _ y h
    ·exact vb_byte _ y h
theorem rkB_del (e s v:ByteArray):rkB 19 e s v=e:=by
 refine bytesOf_inj ?_
 rw[bytesOf_bl,bytesOf_bl,rkB_bl];rfl
abbrev EntP :=ByteArray×Int×ByteArray
def epc (e:EntP):List Value:=[.string e.1,.int .u64 e.2.1,.string e.2.2]
def EL (p:Addr)(l:List EntP):Chunk:=fun g=> ∃out:Sl,out.n=l.length/\Star (Arr p [.slice out.a out.n out.c]) (Buf 3 out (l.flatMap epc)) g
theorem elOpen {p:Addr}{l:List EntP}{L w}(h:Sat w (EL p l::L)): ∃out:Sl,out.n=l.length/\Sat w (Arr p [.slice out.a out.n out.c]::Buf 3 out (l.flatMap epc)::L):=by
 obtain⟨g,⟨out,h1,h2⟩,hg⟩:=h
 exact⟨out,h1,Sat.star.1 ⟨g,h2,hg⟩⟩
theorem elShut {p:Addr}{l:List EntP}{out:Sl}{L w}(h1:out.n=l.length)(h:Sat w (Arr p [.slice out.a out.n out.c]::Buf 3 out (l.flatMap epc)::L)):Sat w (EL p l::L):=
 (Sat.star.2 h).cons fun _ hg=>⟨out,h1,hg⟩
theorem emit69 {k1:Sl×Int}{v2:Sl}{p:Addr}{u s:ByteArray}{l:List EntP}{R w}{K:IV->WP}(hl:l.length<2^32)(hu: ∀w,Sat w R->RdB w k1.1.a k1.1.n u)(hv: ∀w,Sat w R->RdB w v2.a v2.n s)(h:Sat w (EL p l::R))
  (k: ∀w',Sat w' (EL p (l++[(u,k1.2,s)])::R)->K .nil w'):CallV Tryz.prog (FV.enc (.mk (.func 69) #[] #[.pointer (some p)])) [.agg #[.slice k1.1.a k1.1.n k1.1.c,.int .u64 k1.2],.slice v2.a v2.n v2.c] [(.one .ifc)] K w:=by
 refine CallV_run' (call69 (k1:=k1) (v2:=v2) (a3:=p) ?_)
 unfold F69
 refine NewP_run h fun n4 w h=>LdN h (call26 (k1:=k1) (spec26 (s:=u) (fun w h=>hu w h.tail.tail) h fun w h=>NewP_run h fun n7 w h=>StL_of (St1 h rfl fun w h=>St1 h rfl fun w h=>St1 h rfl fun w h=>?_)))
 simp only[StC]
 refine⟨s,hv _ h.near.tail.tail.tail,St1 h rfl fun w h=>?_⟩
 obtain⟨out,h1,h2⟩:=elOpen ((h.mv 2):Sat w (EL p l::Arr n7 [.string u,.int .u64 k1.2,.string s]::Arr n4 [.slice k1.1.a k1.1.n k1.1.c,.int .u64 k1.2]::R))
 clear h
 refine Ld1 h2 (LdN h2 (NewS_run h2 fun n1 w h=>?_))
 refine App1 (k:=3) (new:=epc (u,k1.2,s)) rfl h .k2 .here rfl (ones_of rfl) ?_ (by dsimp only;omega) fun r w er ea h=>?_
 ·show(2*(out.n+1)+1024)*40<=_
  omega
 refine St1 h rfl fun w h=>decI_nil (k w ?_)
 refine elShut (out:=r) (by rw[er,h1,List.length_append];rfl) ?_
 rw[List.flatMap_append,List.flatMap_singleton]
 exact(((((h.mv 1).tail.mv 1).mv 3).tail.mv 2).tail.mv 1).mv 1
abbrev emV (p:Addr):FV:=.mk (.func 69) #[] #[.pointer (some p)]
def EncT (e sa p:Addr)(ecs:List Value)(Bc:Chunk)(uns sets:Sl)(ucs scs:List Value)(x:SpC)(l:List EntP)(D:Hp)(R:List Chunk):List Chunk:=
 Arr e ecs::Bc::Buf 1 uns ucs::Buf 2 sets scs::Arr sa (spc x)::EL p l::Own D::R
def EncS (e sa p:Addr)(buf uns sets:Sl)(ucs scs:List Value)(x:SpC)(l:List EntP)(D:Hp)(R:List Chunk):List Chunk:=
 Arr e [(emV p).enc,.slice buf.a buf.n buf.c,.slice uns.a uns.n uns.c,.slice sets.a sets.n sets.c]::Buf 1 ⟨buf.a,0,buf.c⟩ []::Buf 1 uns ucs::Buf 2 sets scs::Arr sa (spc x)::EL p l::Own D::R
theorem spec165 {uk:Sl}{seq kind:Nat}{L w}{K:Sl×Int->WP}(hs:seq<2^55)(hk:kind<256)(h:Sat w L)(k: ∀w',Sat w' L->K (uk,((seq*256+kind:Nat):Int)) w'):F165 uk (seq:Int) (kind:Int) K w:=by
 unfold F165
 refine NewP_run h fun n4 w h=>⟨by omega,?_⟩
 have e2:IntKind.u64.wrap ((seq:Int)*2^(min 8 IntKind.u64.bits))=((seq*2^8:Nat):Int):=by
  rw[show min 8 IntKind.u64.bits=8 from rfl]
  have:(seq:Int)*2^8=((seq*2^8:Nat):Int):=by omega
  rw[this]
  exact wu64n om
 have e3:IntKind.u64.wrap (BitVec.ofInt IntKind.u64.bits (IntKind.u64.wrap ((seq:Int)*2^(min 8 IntKind.u64.bits)))|||BitVec.ofInt IntKind.u64.bits (IntKind.u64.wrap (kind:Int))).toNat=((seq*256+kind:Nat):Int):=by
  rw[e2,wu64n (n:=kind) om,or64' om om om]
 rw[e3]
 refine StL_of (St1 h rfl fun w h=>St1 h rfl fun w h=>?_)
 simp only[StC]
 exact LdN h (k w h.tail)
theorem bufSp {q:Addr}{c:Nat}{L w}(h:Sat w (Buf 1 ⟨some q,0,c⟩ []::L)): ∃sp,sp.length=c/\Sat w (Arr q sp::L):=by
 obtain⟨g,⟨_,sp,h2,h3⟩,hg⟩:=h
 refine⟨sp,?_,g,by simpa using h3,hg⟩
 dsimp only at h2
 simpa using h2
theorem bufSome {a:Option Addr}{c:Nat}{L w}(hc:0<c)(h:Sat w (Buf 1 ⟨a,0,c⟩ []::L)): ∃q,a=some q:=by
 obtain⟨g,hg,_⟩:=h
 cases a with
 |none=>
  have h2:c=0:=hg.2.1
  omega
 |some q=>exact⟨q,rfl⟩
theorem emitE {C Bc:Chunk}{e sa p:Addr}{ecs:List Value}{uns sets v2:Sl}{ucs scs:List Value}{x:SpC}{lo s:ByteArray}{tr:Int}{l:List EntP}{D R w w1}{K:IV->WP}[Near w w1](hl:l.length<2^32)(hlo:BytesAt D x.lo lo)(hv: ∀w L,Sat w (Bc::Own D::L)->RdB w v2.a v2.n s)
  (h:Sat w (C::EncT e sa p ecs Bc uns sets ucs scs x l D R)) (k: ∀w',Sat w' (C::EncT e sa p ecs Bc uns sets ucs scs x (l++[(lo,tr,s)]) D R)->K .nil w'):CallV Tryz.prog (FV.enc (emV p)) [.agg #[.slice x.lo.a x.lo.n x.lo.c,.int .u64 tr],.slice v2.a v2.n v2.c] [(.one .ifc)] K w1:=by
 have h2:Sat w1 (EL p l::C::Arr e ecs::Bc::Buf 1 uns ucs::Buf 2 sets scs::Arr sa (spc x)::Own D::R):=(h.near (w':=w1)).mv 6
 exact emit69 (k1:=(x.lo,tr)) hl (fun w h=>h.rdB .k6 hlo) (fun w h=>hv w _ ((h.mv 6).mv 3)) h2 fun w h=>k w (h.pt 6)
set_option maxHeartbeats 4000000 in
theorem spec136 {e sa p:Addr}{buf uns sets:Sl}{ucs scs:List Value}{x:SpC}{lo hi sb xb:ByteArray}{kind seq:Nat}{l:List EntP}{D R w}{K:IV->WP}(hlo:BytesAt D x.lo lo)(hhi:BytesAt D x.hi hi)(hz:hi.size<2^28)(hsz:sb.size<2^28)(hxz:xb.size<2^28)(hseq:seq<2^55)(hl:l.length<2^31)
  (hu:kind=20/\uns.n=1/\(∃y:Sl,ucs=[.slice y.a y.n y.c]/\BytesAt D y sb)\/kind≠20/\uns.n=0)
  (hs:kind=21/\sets.n=1/\(∃y z:Sl,scs=[.slice y.a y.n y.c,.slice z.a z.n z.c]/\BytesAt D y sb/\BytesAt D z xb)\/kind≠21/\sets.n=0) (hk:kind=19\/kind=20\/kind=21)
  (h:Sat w (EncS e sa p buf uns sets ucs scs x l D R)) (k: ∀buf' w',Sat w' (EncS e sa p buf' uns sets ucs scs x (l++[(lo,((seq*256+kind:Nat):Int),rkB kind hi sb xb)]) D R)->K .nil w'):
  F136 (some e) (some sa) (seq:Int) (decide (kind=19)) K w:=by
 have hhn:=hhi.n
 have v1:=vi_len4 hz
 have v2:=vi_len4 hsz
 have v3:=vi_len4 hxz
 have vp:=vi_pos hi.size
 unfold F136
 refine⟨fun _ w=> ∃buf',Sat w (EncS e sa p buf' uns sets ucs scs x (if kind=21 then l++[(lo,((seq*256+kind:Nat):Int),rkB kind hi sb xb)]else l) D R),?_,?_⟩
 ·clear h buf
  rintro _ w ⟨buf,h⟩
  refine⟨fun _ w=> ∃buf',Sat w (EncS e sa p buf' uns sets ucs scs x (if kind=19 then l else l++[(lo,((seq*256+kind:Nat):Int),rkB kind hi sb xb)]) D R),?_,?_⟩
  ·clear h buf
   rintro _ w ⟨buf,h⟩
   by_cases hd:kind=19
   ·subst hd
    rw[if_pos rfl]at h
    refine ifd (fun _=>?_) (fun hh=>absurd rfl hh)
    unfold EncS spc at h
    refine⟨_,rfl,Ld1 h (call165 (userKey1:=x.lo) (kind3:=((19:Nat):Int)) (spec165 hseq om h.near fun w h=>NewP_run h fun a2 w h=>StL_of (St1 h rfl fun w h=>St1 h rfl fun w h=>?_)))⟩
    simp only[StC]
    refine⟨_,rfl,Ld1 h (LdN h ⟨_,rfl,Ld1 h ?_⟩)⟩
    refine emitE (s:=rkB 19 hi sb xb) (v2:=x.hi) (lo:=lo) (x:=x) om hlo (fun w L h=>by rw[rkB_del];exact h.rdB .k1 hhi) h fun w h=>⟨IsI_enc .nil,ifn (fun hh=>nomatch hh) fun _=>decI_nil (k buf w h.tail)⟩
   ·rw[if_neg hd]at h
    exact ifd (fun hh=>absurd hh hd) fun _=>decI_nil (k buf w h)
  ·rcases hu with⟨rfl,hsn,y,rfl,hy⟩|⟨hn,hsn⟩
   ·obtain⟨sA,sN,sC⟩:=uns
    dsimp only at hsn
    subst hsn
    obtain⟨bA,bN,bC⟩:=buf
    rw[if_neg (by decide)]at h
    have hb: ∃a,sA=some a:=by
     obtain⟨a,ha,_⟩:=bufRd (h.mv 2) (by simp)
     exact⟨a,ha⟩
    obtain⟨a,rfl⟩:=hb
    have hcell: ∀{w L},Sat w (Buf 1 ⟨some a,1,sC⟩ [.slice y.a y.n y.c]::L)->w.cell? a=some (.slice y.a y.n y.c):=fun h=>by
     obtain⟨a2,e2,hr⟩:=bufRd h (by simp)
     injection e2 with e2
     subst e2
     exact hr 0 _ rfl
    unfold EncS spc at h
    refine⟨_,rfl,Ld1 h (ifd (fun _=>?_) (fun hh=>absurd (show(((1:Nat):Int)>0) by decide) hh))⟩
    refine⟨_,rfl,Ld1 h (call165 (userKey1:=x.lo) (kind3:=((20:Nat):Int)) (spec165 hseq om h.near fun w h=>NewP_run h fun b1 w h=>StL_of (St1 h rfl fun w h=>St1 h rfl fun w h=>?_)))⟩
    simp only[StC]
    refine⟨_,rfl,Ld1 h ⟨_,rfl,Ld1 h ?_⟩⟩
    refine call120 (endKey1:=x.hi) (suffixes2:=⟨some a,1,sC⟩) (spec120 (suf:=y) om (by have:=hy.n;omega) (hcell (h.near.mv 3)) ?_)
    have hN:(vi x.hi.n).length+x.hi.n+((vi y.n).length+y.n)=(vb hi++vb sb).length:=by
     rw[List.length_append,vb_len,vb_len,hhn,hy.n]
    have hN2:1<=(vb hi++vb sb).length/\(vb hi++vb sb).length<=2^30:=by
     simp only[List.length_append,vb_len];omega
    rw[hN]
    clear hN
    generalize hNd:(vb hi++vb sb).length=N at hN2|-
    refine⟨fun _ w=> ∃(q:Addr) (m c:Nat),N<=c/\Sat w (Arr b1 [.slice x.lo.a x.lo.n x.lo.c,.int .u64 ((seq*256+20:Nat):Int)]::EncS e sa p ⟨some q,m,c⟩ ⟨some a,1,sC⟩ sets [.slice y.a y.n y.c] scs x l D R),?_,?_⟩
    rotate_left
    ·refine⟨_,rfl,Ld1 h (ifd (fun hgt=>?_) (fun hle=>?_))⟩
     ·refine MakeP_run h ⟨by omega,Int.le_refl _,by show(1:Int)*_<=_;omega,by omega⟩ fun q w h=>⟨_,rfl,St1 h rfl fun w h=>⟨q,N,N,Nat.le_refl _,?_⟩⟩
      have h2:=Sat.buf0 (k:=1) (c:=N) (by rw[zrep87,nb_len,List.length_replicate,Nat.mul_one,Int.toNat_natCast]) h
      exact((h2.mv 3).tail.pt 2)
     ·dsimp only at hle
      obtain⟨q,hq⟩:=bufSome (a:=bA) (c:=bC) om (h.mv 2)
      subst hq
      exact⟨q,bN,bC,by omega,h.near⟩
    ·clear h
     rintro _ w ⟨q,m,c,hc,h⟩
     unfold EncS spc at h
     refine⟨_,rfl,Ld1 h ⟨⟨by omega,by dsimp only;omega⟩,_,rfl,Ld1 h ⟨_,rfl,Ld1 h ?_⟩⟩⟩
     rw[Int.toNat_natCast]
     obtain⟨sp,(hsp:sp.length=c),h2⟩:=bufSp (h.mv 2)
     clear h
     refine call122 (dst1:=⟨some q,N,c⟩) (endKey2:=x.hi) (suffixes3:=⟨some a,1,sC⟩) (spec122 (a:=q) (pre:=[]) (sp:=sp) (suf:=y) (eb:=hi) (sb:=sb) rfl hNd.symm (by dsimp only;omega) hc hz hsz hhn hy.n (fun w h=>h.rdB .k6 hhi) (fun w h=>h.rdB .k6 hy) (fun w h=>hcell (h.mv 2)) h2.near fun w h=>?_)
     refine⟨_,rfl,Ld1 h (LdN h ⟨_,rfl,Ld1 h ⟨⟨by omega,by dsimp only;omega⟩,?_⟩⟩)⟩
     refine emitE (s:=rkB 20 hi sb xb) (v2:=⟨some q,N,c⟩) (lo:=lo) (x:=x) om hlo (fun w L h=>⟨?_,?_⟩) (h.pt 2) fun w h=>⟨IsI_enc .nil,ifn (fun hh=>nomatch hh) fun _=>⟨⟨some q,m,c⟩,?_⟩⟩
     ·rw[<-bl_len,rkB_bl];exact hNd
     ·rw[bytesOf_bl,rkB_bl];exact RdL.left (ys:=sp.drop N) (h.rdL .here)
     ·have h3:=Sat.buf0 (k:=1) (c:=c) (by rw[List.length_append,List.nil_append,nb_len,hNd,List.length_drop,hsp];dsimp only;omega) (h.mv 2)
      exact((h3.mv 1).tail.mv 1)
   ·have h2:=h
    unfold EncS spc at h
    refine⟨_,rfl,Ld1 h (ifd (fun hh=>absurd hh (by rw[hsn];decide)) fun _=>⟨buf,?_⟩)⟩
    rcases hk with rfl|rfl|rfl
    ·rw[if_neg (by decide)]at h2;rw[if_pos rfl];exact h2.near
    ·exact absurd rfl hn
    ·rw[if_pos rfl]at h2;rw[if_neg (by decide)];exact h2.near
 ·rcases hs with⟨rfl,hsn,y,z,rfl,hy,hzz⟩|⟨hn,hsn⟩
  ·obtain⟨sA,sN,sC⟩:=sets
   dsimp only at hsn
   subst hsn
   obtain⟨bA,bN,bC⟩:=buf
   have hb: ∃a,sA=some a:=by
    obtain⟨a,ha,_⟩:=bufRd (h.mv 3) (by simp)
    exact⟨a,ha⟩
   obtain⟨a,rfl⟩:=hb
   have hcell: ∀{w L},Sat w (Buf 2 ⟨some a,1,sC⟩ [.slice y.a y.n y.c,.slice z.a z.n z.c]::L)->w.cell? (a.add 0)=some (.slice y.a y.n y.c)/\w.cell? (a.add 1)=some (.slice z.a z.n z.c):=fun h=>by
    obtain⟨a2,e2,hr⟩:=bufRd h (by simp)
    injection e2 with e2
    subst e2
    exact⟨hr 0 _ rfl,hr 1 _ rfl⟩
   unfold EncS spc at h
   refine⟨_,rfl,Ld1 h (ifd (fun _=>?_) (fun hh=>absurd (show(((1:Nat):Int)>0) by decide) hh))⟩
   refine⟨_,rfl,Ld1 h (call165 (userKey1:=x.lo) (kind3:=((21:Nat):Int)) (spec165 hseq om h.near fun w h=>NewP_run h fun b1 w h=>StL_of (St1 h rfl fun w h=>St1 h rfl fun w h=>?_)))⟩
   simp only[StC]
   refine⟨_,rfl,Ld1 h ⟨_,rfl,Ld1 h ?_⟩⟩
   refine call123 (endKey1:=x.hi) (suffixValues2:=⟨some a,1,sC⟩) (spec123 (suf:=y) (val:=z) om (by have:=hy.n;omega) (by have:=hzz.n;omega) (hcell (h.near.mv 4)).1 (hcell (h.near.mv 4)).2 ?_)
   have hN:(vi x.hi.n).length+x.hi.n+((vi y.n).length+y.n+(vi z.n).length+z.n)=(vb hi++(vb sb++vb xb)).length:=by
    rw[List.length_append,List.length_append,vb_len,vb_len,vb_len,hhn,hy.n,hzz.n];omega
   have hN2:1<=(vb hi++(vb sb++vb xb)).length/\(vb hi++(vb sb++vb xb)).length<=2^30:=by
    simp only[List.length_append,vb_len];omega
   rw[hN]
   clear hN
   generalize hNd:(vb hi++(vb sb++vb xb)).length=N at hN2|-
   refine⟨fun _ w=> ∃(q:Addr) (m c:Nat),N<=c/\Sat w (Arr b1 [.slice x.lo.a x.lo.n x.lo.c,.int .u64 ((seq*256+21:Nat):Int)]::EncS e sa p ⟨some q,m,c⟩ uns ⟨some a,1,sC⟩ ucs [.slice y.a y.n y.c,.slice z.a z.n z.c] x l D R),?_,?_⟩
   rotate_left
   ·refine⟨_,rfl,Ld1 h (ifd (fun hgt=>?_) (fun hle=>?_))⟩
    ·refine MakeP_run h ⟨by omega,Int.le_refl _,by show(1:Int)*_<=_;omega,by omega⟩ fun q w h=>⟨_,rfl,St1 h rfl fun w h=>⟨q,N,N,Nat.le_refl _,?_⟩⟩
     have h2:=Sat.buf0 (k:=1) (c:=N) (by rw[zrep87,nb_len,List.length_replicate,Nat.mul_one,Int.toNat_natCast]) h
     exact((h2.mv 3).tail.pt 2)
    ·dsimp only at hle
     obtain⟨q,hq⟩:=bufSome (a:=bA) (c:=bC) om (h.mv 2)
     subst hq
     exact⟨q,bN,bC,by omega,h.near⟩
   ·clear h
    rintro _ w ⟨q,m,c,hc,h⟩
    unfold EncS spc at h
    refine⟨_,rfl,Ld1 h ⟨⟨by omega,by dsimp only;omega⟩,_,rfl,Ld1 h ⟨_,rfl,Ld1 h ?_⟩⟩⟩
    rw[Int.toNat_natCast]
    obtain⟨sp,(hsp:sp.length=c),h2⟩:=bufSp (h.mv 2)
    clear h
    refine call125 (dst1:=⟨some q,N,c⟩) (endKey2:=x.hi) (suffixValues3:=⟨some a,1,sC⟩) (spec125 (a:=q) (pre:=[]) (sp:=sp) (suf:=y) (val:=z) (eb:=hi) (sb:=sb) (xb:=xb) rfl hNd.symm (by dsimp only;omega) hc hz hsz hxz hhn hy.n hzz.n (fun w h=>h.rdB .k6 hhi) (fun w h=>h.rdB .k6 hy) (fun w h=>h.rdB .k6 hzz) (fun w h=>(hcell (h.mv 3)).1) (fun w h=>(hcell (h.mv 3)).2) h2.near fun w h=>?_)
    refine⟨_,rfl,Ld1 h (LdN h ⟨_,rfl,Ld1 h ⟨⟨by omega,by dsimp only;omega⟩,?_⟩⟩)⟩
    refine emitE (s:=rkB 21 hi sb xb) (v2:=⟨some q,N,c⟩) (lo:=lo) (x:=x) om hlo (fun w L h=>⟨?_,?_⟩) (h.pt 2) fun w h=>⟨IsI_enc .nil,ifn (fun hh=>nomatch hh) fun _=>⟨⟨some q,m,c⟩,?_⟩⟩
    ·rw[<-bl_len,rkB_bl];exact hNd
    ·rw[bytesOf_bl,rkB_bl];exact RdL.left (ys:=sp.drop N) (h.rdL .here)
    ·have h3:=Sat.buf0 (k:=1) (c:=c) (by rw[List.length_append,List.nil_append,nb_len,hNd,List.length_drop,hsp];dsimp only;omega) (h.mv 2)
     exact((h3.mv 1).tail.mv 1)
  ·have h2:=h
   unfold EncS spc at h
   exact⟨_,rfl,Ld1 h (ifd (fun hh=>absurd hh (by rw[hsn];decide)) fun _=>⟨buf,by rw[if_neg hn];exact h2.near⟩)⟩
def knd (m:KeyM):Nat:=(m.tr%256).toNat
def entK (s:SpanM)(m:KeyM):EntP:=(s.lo,m.tr,rkB (knd m) s.hi m.suf m.val)
structure Pend (D:Hp)(m:KeyM)(uns sets:Sl)(ucs scs:List Value):Prop where
 u:knd m=20/\uns.n=1/\(∃y:Sl,ucs=[.slice y.a y.n y.c]/\BytesAt D y m.suf)\/knd m≠20/\uns.n=0
 s:knd m=21/\sets.n=1/\(∃y z:Sl,scs=[.slice y.a y.n y.c,.slice z.a z.n z.c]/\BytesAt D y m.suf/\BytesAt D z m.val)\/knd m≠21/\sets.n=0
structure KeyOK (m:KeyM):Prop where
 t0:0<=m.tr
 t1:m.tr<2^62
 kd:m.tr%256=19\/m.tr%256=20\/m.tr%256=21
 sz:m.suf.size<2^28
 vz:m.val.size<2^28
def SeqsD (ks:List KeyM):Prop:= ∀(j:Nat) (a b:KeyM),ks[j]? =some a->ks[j+1]? =some b->a.tr/256≠b.tr/256
theorem flushK {e sa p:Addr}{buf uns sets:Sl}{ucs scs:List Value}{x:SpC}{s:SpanM}{m:KeyM}{l:List EntP}{D R w}{K:IV->WP}(hlo:BytesAt D x.lo s.lo)(hhi:BytesAt D x.hi s.hi)(hz:s.hi.size<2^28)(hm:KeyOK m)(hl:l.length<2^31)(hp:Pend D m uns sets ucs scs)
  (h:Sat w (EncS e sa p buf uns sets ucs scs x l D R)) (k: ∀buf' w',Sat w' (EncS e sa p buf' uns sets ucs scs x (l++[entK s m]) D R)->K .nil w'):F136 (some e) (some sa) (m.tr/256) (decide (knd m=19)) K w:=by
 have h0:=hm.t0
 have h1:=hm.t1
 have h2:=hm.kd
 have e1:m.tr/256=(((m.tr/256).toNat:Nat):Int):=by omega
 have e2:(((m.tr/256).toNat*256+knd m:Nat):Int)=m.tr:=by unfold knd;omega
 rw[e1]
 refine spec136 (lo:=s.lo) (kind:=knd m) (sb:=m.suf) (xb:=m.val) hlo hhi hz hm.sz hm.vz om hl hp.u hp.s (by unfold knd;omega) h fun buf w h=>k buf w ?_
 rw[e2]at h
 exact h
theorem ifF {a:Bool}{A B:Prop}(h:a=false)(x:A):if a=false then A else B:=by rw[if_pos h];exact x
theorem ifeF {a b:Int}{A B:Prop}(x:a≠b->A)(y:a=b->B):if(a==b)=false then A else B:=by
 by_cases e:a=b
 ·rw[if_neg (by simp[e])];exact y e
 ·rw[if_pos (by simp[e])];exact x e
set_option maxHeartbeats 4000000 in
theorem spec101 {e sa p:Addr}{buf uns sets:Sl}{x:SpC}{s:SpanM}{D R w}{K:IV->WP}(hx:SpRel D x s)(hz:s.hi.size<2^28)(hk: ∀m∈s.keys,KeyOK m)(hsd:SeqsD s.keys)(hl:s.keys.length<2^30)
  (h:Sat w (EncS e sa p buf uns sets [] [] x [] D R)) (k: ∀w',Sat w' (EL p (s.keys.map (entK s))::Own D::R)->K .nil w'):F101 (some e) (some sa) K w:=by
 obtain⟨⟨hlo,_⟩,⟨hhi,_⟩,cs,⟨hn,hrow⟩,hrel⟩:=hx
 obtain⟨hcl,hget⟩:=hrel.get
 have h':=h
 unfold F101
 unfold EncS spc at h
 refine call134 ?_
 unfold F134
 refine ifF rfl ⟨_,rfl,Ld1 h (ife (fun h0=>?_) (fun h0=>?_))⟩
 ·have:s.keys=[]:=List.length_eq_zero_iff.1 (by dsimp only at h0;omega)
  rw[this]at k
  exact decI_nil (k _ (Sat.drop 5 h'))
 dsimp only at h0
 refine⟨_,rfl,Ld1 h ?_⟩
 refine⟨fun m (z:Bool×Int×Int) w=> ∃(j:Nat) (buf uns sets:Sl) (ucs scs:List Value),z.2.2=(j:Int)/\j<=s.keys.length/\m=s.keys.length-j/\(∀q,0<j->s.keys[j-1]? =some q->z.1=decide (knd q=19)/\z.2.1=q.tr/256/\Pend D q uns sets ucs scs)/\Sat w (EncS e sa p buf uns sets ucs scs x ((s.keys.take (j-1)).map (entK s)) D R),⟨_,0,buf,uns,sets,[],[],rfl,Nat.zero_le _,rfl,fun q h=>absurd h (Nat.lt_irrefl _),h'⟩,?_⟩
 clear h h' buf uns sets
 rintro m ⟨del,seq,z⟩ w ⟨j,buf,uns,sets,ucs,scs,hzj,hj,hm,hp,h⟩
 dsimp only at hzj hp|-
 subst hzj
 have htl:((s.keys.take (j-1)).map (entK s)).length<2^31:=by rw[List.length_map,List.length_take];omega
 have hfl: ∀q,0<j->s.keys[j-1]? =some q->(s.keys.take (j-1)).map (entK s)++[entK s q]=(s.keys.take j).map (entK s):=fun q hj0 hq=>by
  obtain⟨i,rfl⟩: ∃i,j=i+1:=⟨j-1,by omega⟩
  rw[Nat.add_sub_cancel]at hq|-
  rw[List.take_add_one,hq,List.map_append];rfl
 refine ifd (fun hlt=>?_) (fun hge=>?_)
 rotate_left
 ·have hje:j=s.keys.length:=by omega
  have hq:s.keys[j-1]? =some (s.keys[j-1]'om):=List.getElem?_eq_getElem om
  have hqm:s.keys[j-1]'om∈s.keys:=List.getElem_mem _
  generalize s.keys[j-1]'om=q at hq hqm
  obtain⟨rfl,rfl,hpd⟩:=hp q om hq
  refine call136 (flushK hlo hhi hz (hk q hqm) htl hpd h fun buf w h=>decI_enc (x:=.nil) (k w ?_))
  rw[hfl q om hq,hje,List.take_length]at h
  exact Sat.drop 5 h
 have hjl:j<s.keys.length:=by omega
 have hq:s.keys[j]? =some s.keys[j]:=List.getElem?_eq_getElem hjl
 have hc:cs[j]? =some (cs[j]'om):=List.getElem?_eq_getElem om
 have hqk:=hk _ (List.getElem_mem hjl)
 generalize s.keys[j]=q at hq hqk
 generalize cs[j]'om=c at hc
 obtain⟨f1,f2,f3⟩:=hget j _ _ hc hq
 obtain⟨a,ha,hd⟩:=hrow j _ hc
 have hrd: ∀{w:World} {L R':List Chunk},Sat w L->Take L (Own D) R'->RdL w (a.add (j*3)) [.int .u64 c.1,.slice c.2.1.a c.2.1.n c.2.1.c,.slice c.2.2.a c.2.2.n c.2.2.c]:=fun h t i v ev=>h.dat t (hd i v ev)
 have t0:=hqk.t0
 have t1:=hqk.t1
 have t2:=hqk.kd
 rw[w1 om,Int.toNat_natCast]
 refine⟨fun(z:Bool×Int) w=> ∃buf uns sets:Sl,z=(false,q.tr/256)/\uns.n=0/\sets.n=0/\Sat w (EncS e sa p buf uns sets [] [] x ((s.keys.take j).map (entK s)) D R),?_,?_⟩
 ·clear h hp uns sets buf
  rintro _ w ⟨buf,uns,sets,rfl,hun,hsn,h⟩
  have h':=h
  unfold EncS spc at h
  refine⟨_,rfl,Ld1 h ⟨⟨by omega,by omega⟩,a,ha,LdR (hrd h .k6) ?_⟩⟩
  refine call137 (k1:=c) (spec137 h om om fun w h=>?_)
  have h':Sat w (EncS e sa p buf uns sets [] [] x ((s.keys.take j).map (entK s)) D R):=h
  have knq:((knd q:Nat):Int)=c.1%256:=by unfold knd;omega
  refine ife (fun e21=>?_) (fun n21=>ife (fun e20=>?_) (fun n20=>ife (fun e19=>?_) (fun n19=>?_)))
  ·refine⟨_,rfl,Ld1 h ⟨_,rfl,Ld1 h ⟨⟨by omega,by omega⟩,a,ha,LdC (hrd (h.near (w':=w.drew)) .k6 1 _ rfl) ⟨_,rfl,Ld1 h ⟨⟨by omega,by omega⟩,a,ha,LdC (hrd (h.near (w':=w.drew)) .k6 2 _ rfl) (NewS_run h fun ae w h=>⟨LdAt1 h,?_⟩)⟩⟩⟩⟩⟩
   refine App1 (k:=2) rfl h .k4 .here rfl (ones_of rfl) ?_ (by dsimp only;omega) fun r w er ea h=>?_
   ·show(2*(sets.n+1)+1024)*48<=_
    omega
   refine⟨_,rfl,St1 h rfl fun w h=>⟨_,?_,j+1,buf,uns,r,[],_,rfl,hjl,rfl,fun q' _ hq'=>?_,((h.mv 1).tail.pt 3)⟩⟩
   ·omega
   ·rw[Nat.add_sub_cancel,hq]at hq'
    injection hq' with hq'
    subst hq'
    exact⟨(decide_eq_false om).symm,rfl,.inr ⟨by omega,hun⟩,.inl ⟨by omega,by rw[er,hsn],c.2.1,c.2.2,rfl,f2,f3⟩⟩
  ·refine⟨_,rfl,Ld1 h ⟨_,rfl,Ld1 h ⟨⟨by omega,by omega⟩,a,ha,LdC (hrd (h.near (w':=w.drew)) .k6 1 _ rfl) (NewS_run h fun ae w h=>⟨LdAt1 h,?_⟩)⟩⟩⟩
   refine App1 (k:=1) rfl h .k3 .here rfl (ones_of rfl) ?_ (by dsimp only;omega) fun r w er ea h=>?_
   ·show(2*(uns.n+1)+1024)*24<=_
    omega
   refine⟨_,rfl,St1 h rfl fun w h=>⟨_,?_,j+1,buf,r,sets,_,[],rfl,hjl,rfl,fun q' _ hq'=>?_,((h.mv 1).tail.pt 2)⟩⟩
   ·omega
   ·rw[Nat.add_sub_cancel,hq]at hq'
    injection hq' with hq'
    subst hq'
    exact⟨(decide_eq_false om).symm,rfl,.inl ⟨by omega,by rw[er,hun],c.2.1,rfl,f2⟩,.inr ⟨by omega,hsn⟩⟩
  ·refine⟨_,?_,j+1,buf,uns,sets,[],[],rfl,hjl,rfl,fun q' _ hq'=>?_,h'⟩
   ·omega
   ·rw[Nat.add_sub_cancel,hq]at hq'
    injection hq' with hq'
    subst hq'
    exact⟨(decide_eq_true om).symm,rfl,.inr ⟨by omega,hun⟩,.inr ⟨by omega,hsn⟩⟩
  ·omega
 ·refine⟨fun(b:Bool) w=>b=true/\Sat w (EncS e sa p buf uns sets ucs scs x ((s.keys.take (j-1)).map (entK s)) D R),?_,?_⟩
  ·clear h
   rintro _ w ⟨rfl,h⟩
   refine ift rfl ?_
   refine⟨fun _ w=> ∃buf,Sat w (EncS e sa p buf uns sets ucs scs x ((s.keys.take j).map (entK s)) D R),?_,?_⟩
   ·clear h
    rintro _ w ⟨buf,h⟩
    obtain⟨ua,un,uc⟩:=uns
    obtain⟨ta,tn,tc⟩:=sets
    unfold EncS spc at h
    refine⟨_,rfl,Ld1 h ⟨⟨by omega,by omega⟩,a,ha,LdR (hrd h .k6) ?_⟩⟩
    refine call135 (k1:=c) (spec135 h om fun w h=>?_)
    refine⟨_,rfl,Ld1 h ⟨⟨by omega,by dsimp only;omega⟩,_,rfl,St1 h rfl fun w h=>⟨_,rfl,Ld1 h ⟨⟨by omega,by dsimp only;omega⟩,_,rfl,St1 h rfl fun w h=>⟨buf,⟨ua,0,uc⟩,⟨ta,0,tc⟩,by rw[f1],rfl,rfl,?_⟩⟩⟩⟩⟩
    exact(bufTrunc (((bufTrunc (h.mv 2)).pt 2).mv 3)).pt 3
   ·refine ifd (fun hg=>?_) (fun hg=>⟨buf,?_⟩)
    ·have hq2:s.keys[j-1]? =some (s.keys[j-1]'om):=List.getElem?_eq_getElem om
     have hqm:s.keys[j-1]'om∈s.keys:=List.getElem_mem _
     generalize s.keys[j-1]'om=q2 at hq2 hqm
     obtain⟨rfl,rfl,hpd⟩:=hp q2 om hq2
     refine call136 (flushK hlo hhi hz (hk q2 hqm) htl hpd h fun buf w h=>⟨IsI_enc .nil,ifn (fun hh=>nomatch hh) fun _=>⟨buf,?_⟩⟩)
     rw[hfl q2 om hq2]at h
     exact h
    ·have:j=0:=by omega
     subst this
     exact h
  ·refine ifeF (fun hj0=>?_) (fun _=>⟨rfl,h⟩)
   have hq2:s.keys[j-1]? =some (s.keys[j-1]'om):=List.getElem?_eq_getElem om
   generalize s.keys[j-1]'om=q2 at hq2
   obtain⟨_,rfl,_⟩:=hp q2 om hq2
   have hne:=hsd (j-1) q2 q hq2 (by rw[show j-1+1=j by omega];exact hq)
   unfold EncS spc at h
   refine⟨_,rfl,Ld1 h ⟨⟨by omega,by omega⟩,a,ha,LdR (hrd h .k6) ?_⟩⟩
   refine call135 (k1:=c) (spec135 h om fun w h=>⟨?_,h⟩)
   rw[bne_iff_ne,f1]
   exact fun e=>hne e.symm
theorem spec68 {sa p:Addr}{x:SpC}{s:SpanM}{D R w}{K:IV->WP}(hx:SpRel D x s)(hz:s.hi.size<2^28)(hk: ∀m∈s.keys,KeyOK m)(hsd:SeqsD s.keys)(hl:s.keys.length<2^30)
  (h:Sat w (Arr sa (spc x)::EL p []::Own D::R)) (k: ∀w',Sat w' (EL p (s.keys.map (entK s))::Own D::R)->K .nil w'):F68 (some sa) (emV p) K w:=by
 unfold F68
 refine⟨ones_of rfl,NewP_run h fun n3 w h=>StL_of (St1 h rfl fun w h=>St1 h rfl fun w h=>St1 h rfl fun w h=>St1 h rfl fun w h=>?_)⟩
 simp only[StC]
 refine call101 (spec101 (buf:=nl) (uns:=nl) (sets:=nl) hx hz hk hsd hl ?_ fun w h=>decI_enc (x:=.nil) (k w h))
 exact(Sat.bufNil 1 (Sat.bufNil 1 (Sat.bufNil 2 h))).mv 3
theorem spec40 {s:SpanM}{y:Sl}{R w}{K:Sl×Bool->WP}(hrd: ∀w,Sat w R->PKeysRd w y s.keys)(hz:s.hi.size<2^28)(hk: ∀m∈s.keys,KeyOK m)(hsd:SeqsD s.keys)(hl:s.keys.length<2^30)
  (h:Sat w R) (k: ∀out w',out.n=s.keys.length->Sat w' (Buf 3 out ((s.keys.map (entK s)).flatMap epc)::R)->K (out,true) w'):F40 (s.lo,s.hi,y) K w:=by
 unfold F40
 refine NewP_run h fun n2 w h=>NewP_run h fun n3 w h=>LdN h ?_
 have h0:Sat w (Own (fun _=>none)::Arr n3 [.slice none 0 0]::Arr n2 [.string s.lo,.string s.hi,.slice y.a y.n y.c]::R):=SatU.nil rfl h
 refine call36 (s1:=(s.lo,s.hi,y)) (spec36 (s:=s) (fun w h=>hrd w h.tail.tail) om h0 fun D x w _ hx h=>?_)
 refine NewP_run h fun n6 w h=>StL_of (St1 h rfl fun w h=>St1 h rfl fun w h=>St1 h rfl fun w h=>St1 h rfl fun w h=>?_)
 simp only[StC]
 have h1:Sat w (Buf 3 nl []::Arr n6 (spc x)::Own D::Arr n3 [.slice none 0 0]::Arr n2 [.string s.lo,.string s.hi,.slice y.a y.n y.c]::R):=Sat.bufNil 3 h
 have h2:Sat w (EL n3 []::Arr n6 (spc x)::Own D::Arr n2 [.string s.lo,.string s.hi,.slice y.a y.n y.c]::R):=elShut (out:=nl) rfl (h1.mv 3)
 refine call68 (emit2:=emV n3) (spec68 (x:=x) hx hz hk hsd hl h2.t1 fun w h=>?_)
 obtain⟨out,ho,h⟩:=elOpen h
 rw[List.length_map]at ho
 refine Ld1 h ⟨IsI_enc .nil,St1 h rfl fun w h=>Ld1 h (k out w ho ?_)⟩
 exact h.tail.pt 2|>.tail.tail
theorem stepC {D:Hp}{t:ByteArray}{e:Nat}{X w w1}{Kb:Sl->WP}(h:Sat w (Own D::X))[Near w w1](k: ∀D' b w',D.le D'->Cont D' b (bl t)->Sat w' (Own D'::X)->Kb b w'):BytesP e t Kb w1:=by
 refine BytesP_run h fun p c w hc h=>?_
 obtain⟨G,g,hg,h1,h2,h3⟩:=Sat.absorb h.t1
 refine k G _ w h1 ⟨(bl_len t).symm,hc,rfl,fun j y e=>⟨p,rfl,?_⟩⟩ h3
 exact(bytesAt_arr (c:=c) hg h2).2 j (.int .u8 (y:Int)) (by rw[bytesOf_bl];unfold nb;rw[List.getElem?_map,e];rfl)
theorem spec71 {u v:ByteArray}{tr:Int}{D:Hp}{L w}{K:Sl×Int->WP}(h:Sat w (Own D::L))(k: ∀D' b w',D.le D'->BytesAt D' b u->Sat w' (Own D'::L)->K (b,tr) w'):F71 (u,tr,v) K w:=by
 unfold F71
 refine NewP_run h fun n2 w h=>NewP_run h fun n3 w h=>Ld1 h ?_
 refine stepB (h.mv 2) fun D' b w hD hb _ h=>Ld1 h (StL_of (St1 h rfl fun w h=>St1 h rfl fun w h=>?_))
 simp only[StC]
 exact LdN h (k D' b w hD hb ((h.t1.tail).t1.tail))
theorem rkVal_len {kind:Nat}{e s v:ByteArray}(he:e.size<2^28)(hs:s.size<2^28)(hv:v.size<2^28):(rkVal kind e s v).length<2^31:=by
 have h1:=vb_len e
 have h2:=vb_len s
 have h3:=vb_len v
 have h4:=vi_len4 he
 have h5:=vi_len4 hs
 have h6:=vi_len4 hv
 unfold rkVal
 split
 ·rw[bl_len];omega
 ·split
  ·rw[List.length_append];omega
  ·rw[List.length_append,List.length_append];omega
abbrev C70 (x:KC)(r:Sl):Chunk:=fun g=>r.n=1/\Buf 3 r (kcells x) g
set_option maxHeartbeats 2000000 in
theorem spec41 {lo hi sb xb:ByteArray}{tr kind:Nat}{R w}{K:(ByteArray×ByteArray×Sl)×Bool->WP}(hkind:kind=19\/kind=20\/kind=21)(htr:tr%256=kind)(h64:tr<2^64)(he:hi.size<2^28)(hs:sb.size<2^28)(hx:xb.size<2^28)(h:Sat w R)
  (k: ∀kx w',kx.n=1->Sat w' (Buf 3 kx (pkc ⟨(tr:Int),rkSuf kind sb,rkV kind xb⟩)::R)->K ((lo,hi,kx),true) w'):F41 (lo,(tr:Int),rkB kind hi sb xb) K w:=by
 have fin: ∀(D:Hp) (x:KC) (uk y r:Sl) (n2 n3 n9:Addr) (w:World),x.1=(tr:Int)->BytesAt D x.2.1 (rkSuf kind sb)->BytesAt D x.2.2 (rkV kind xb)->BytesAt D uk lo->Cont D y (bl hi)->Sat w (Arr n9 [.slice none 0 0,.slice none 0 0,.slice none 0 0,.int .i8 (0:Int)]::Own D::C70 x r::Arr n3 [.string .empty,.string .empty,.slice none 0 0]::Arr n2 [.string lo,.int .u64 (tr:Int),.string (rkB kind hi sb xb)]::R)->
   StL n9 [.slice uk.a uk.n uk.c,.slice y.a y.n y.c,.slice r.a r.n r.c,.int .i8 (0:Int)] (fun w=>Ld (.agg [.sl,.sl,.sl,.int .i8]) n9 (fun(a1:Sl×Sl×Sl×Int) w=>IsI (IV.enc .nil)/\CallF Tryz.prog 54 [.agg #[a1.1.v,a1.2.1.v,a1.2.2.1.v,.int .i8 a1.2.2.2]] [(.agg [.str,.str,.sl])] (fun(a2:ByteArray×ByteArray×Sl) w=>StL n3 [.string a2.1,.string a2.2.1,a2.2.2.v] (fun w=>Ld (.agg [.str,.str,.sl]) n3 (fun(a3:ByteArray×ByteArray×Sl) w=>K ((a3.1,a3.2.1,a3.2.2),(isNilI (IV.enc .nil))) w) w) w) w) w.drew) w:=by
  intro D x uk y r n2 n3 n9 w h1 h2 h3 hu hy h
  refine StL_of (St1 h rfl fun w h=>St1 h rfl fun w h=>St1 h rfl fun w h=>St1 h rfl fun w h=>?_)
  simp only[StC]
  refine LdN h ⟨IsI_enc .nil,?_⟩
  obtain⟨g,⟨hr1,hg1⟩,hg⟩:=h.mv 2
  have h5:Sat w (Buf 3 r (kcells x)::Arr n9 [.slice uk.a uk.n uk.c,.slice y.a y.n y.c,.slice r.a r.n r.c,.int .i8 (0:Int)]::Own D::Arr n3 [.string .empty,.string .empty,.slice none 0 0]::Arr n2 [.string lo,.int .u64 (tr:Int),.string (rkB kind hi sb xb)]::R):=⟨g,hg1,hg⟩
  obtain⟨G,l1,hd,h4⟩:=bufAbs (h5.mv 2)
  clear h h5 hg hg1 g
  have hka:KeysAt G r [⟨(tr:Int),rkSuf kind sb,rkV kind xb⟩]:=by
   refine⟨[x],⟨hr1,fun j q e=>?_⟩,⟨⟨h1,h2.mono l1,h3.mono l1⟩,trivial⟩⟩
   have hj:j=0:=by
    have:=(List.getElem?_eq_some_iff.1 e).1
    simp only[List.length_singleton]at this
    omega
   subst hj
   simp only[List.getElem?_cons_zero,Option.some.injEq]at e
   subst e
   obtain⟨a,ha,_⟩:=hd 0 _ rfl
   refine⟨a,ha,fun i v ev=>?_⟩
   obtain⟨a',ha',hv⟩:=hd i v ev
   rw[ha]at ha'
   injection ha' with ha'
   subst ha'
   rw[Nat.zero_mul,Addr.add_add,Nat.zero_add]
   exact hv
  obtain⟨kg,hkg⟩:=hka.rd
  refine call54 (s1:=(uk,y,r,0)) (spec54 (lo:=lo) (hi:=hi) (kg:=kg) (fun w h=>⟨h.rdB .here (hu.mono l1),h.rdB .here ((hy.mono l1).bytes),hkg h .here⟩) (show 1<2^32 by omega) (h4.near (w':=w.drew)) fun kx w hkx h=>?_)
  refine StL_of (St1 h rfl fun w h=>St1 h rfl fun w h=>St1 h rfl fun w h=>?_)
  simp only[StC]
  exact LdN h (k kx w hkx (Sat.drop 4 (h.pt 4)))
 have d70: ∀{D:Hp} {uk v:Sl} {L:List Chunk} {w:World} {K70:(Sl×Sl×Sl×Int)×IV->WP},Cont D v (bl (rkB kind hi sb xb))->Sat w (Own D::L)->(∀(x:KC) y r w',x.1=(tr:Int)->BytesAt D x.2.1 (rkSuf kind sb)->BytesAt D x.2.2 (rkV kind xb)->Cont D y (bl hi)->Sat w' (Own D::C70 x r::L)->K70 ((uk,y,r,0),.nil) w')->CallF Tryz.prog 70 [.agg #[uk.v,.int .u64 (tr:Int)],v.v,.slice none 0 0] [(.agg [.sl,.sl,.sl,.int .i8]),tI] K70 w:=by
  intro D uk v L w K70 hv h kk
  rw[rkB_bl]at hv
  have hn:=hv.n
  have hrl:=rkVal_len (kind:=kind) he hs hx
  exact call70 (ik1:=(uk,(tr:Int))) (v2:=v) (keysDst3:=nl) (spec70g app70nil hkind htr h64 he hs hx hv om ((Sat.bufNil 3 h).mv 1) kk)
 unfold F41
 refine NewP_run h fun n2 w h=>NewP_run h fun n3 w h=>LdN h (Ld1 h ?_)
 have hX:Sat w.drew (Own (fun _=>none)::Arr n3 [.string .empty,.string .empty,.slice none 0 0]::Arr n2 [.string lo,.int .u64 (tr:Int),.string (rkB kind hi sb xb)]::R):=SatU.nil rfl h.near
 clear h
 refine⟨call71 (e1:=(lo,(tr:Int),rkB kind hi sb xb)) (spec71 hX fun D1 uk w l1 hu h=>⟨LdAt1 h,?_,?_⟩),?_,?_⟩
 ·refine stepC h fun D2 v w l2 hv h=>⟨?_,?_⟩
  ·exact d70 hv h fun x y r w a1 a2 a3 a4 h=>NewP_run h fun n9 w h=>fin _ x uk y r n2 n3 n9 w a1 a2 a3 (hu.mono l2) a4 h
  ·exact NewP_run h fun n9 w h=>d70 hv h.t1 fun x y r w a1 a2 a3 a4 h=>fin _ x uk y r n2 n3 n9 w a1 a2 a3 (hu.mono l2) a4 (h.mv 2)
 ·refine NewP_run h fun n9 w h=>⟨LdAt1 h,stepC h.t1 fun D2 v w l2 hv h=>?_⟩
  exact d70 hv h fun x y r w a1 a2 a3 a4 h=>fin _ x uk y r n2 n3 n9 w a1 a2 a3 (hu.mono l2) a4 (h.mv 2)
 ·refine stepC hX fun D1 v w l1 hv h=>⟨LdAtN h,?_,?_⟩
  ·refine call71 (e1:=(lo,(tr:Int),rkB kind hi sb xb)) (spec71 h fun D2 uk w l2 hu h=>⟨?_,?_⟩)
   ·exact d70 (hv.mono l2) h fun x y r w a1 a2 a3 a4 h=>NewP_run h fun n9 w h=>fin _ x uk y r n2 n3 n9 w a1 a2 a3 hu a4 h
   ·exact NewP_run h fun n9 w h=>d70 (hv.mono l2) h.t1 fun x y r w a1 a2 a3 a4 h=>fin _ x uk y r n2 n3 n9 w a1 a2 a3 hu a4 (h.mv 2)
  ·refine NewP_run h fun n9 w h=>⟨LdAtN h,call71 (e1:=(lo,(tr:Int),rkB kind hi sb xb)) (spec71 h.t1 fun D2 uk w l2 hu h=>?_)⟩
   exact d70 (hv.mono l2) h fun x y r w a1 a2 a3 a4 h=>fin _ x uk y r n2 n3 n9 w a1 a2 a3 hu a4 (h.mv 2)
 ·refine NewP_run hX fun n9 w h=>⟨LdAt1 h,LdAtN h,?_,?_⟩
  ·refine call71 (e1:=(lo,(tr:Int),rkB kind hi sb xb)) (spec71 h.t1 fun D1 uk w l1 hu h=>⟨LdAt1 h,stepC h fun D2 v w l2 hv h=>?_⟩)
   exact d70 hv h fun x y r w a1 a2 a3 a4 h=>fin _ x uk y r n2 n3 n9 w a1 a2 a3 (hu.mono l2) a4 (h.mv 2)
  ·refine stepC h.t1 fun D1 v w l1 hv h=>⟨LdAtN h,call71 (e1:=(lo,(tr:Int),rkB kind hi sb xb)) (spec71 h fun D2 uk w l2 hu h=>?_)⟩
   exact d70 (hv.mono l2) h fun x y r w a1 a2 a3 a4 h=>fin _ x uk y r n2 n3 n9 w a1 a2 a3 hu a4 (h.mv 2)
def fgC (nn o:Addr)(l:List SpanM):Chunk:=fun g=> ∃(out:Sl) (ps:List PlM),ps.map PlM.sp=l/\Star (Arr nn [.pointer (some o)]) (Star (Arr o [.slice out.a out.n out.c]) (PSp out ps)) g
theorem fgOpen {nn o:Addr}{l:List SpanM}{L w}(h:Sat w (fgC nn o l::L)): ∃(out:Sl) (ps:List PlM),ps.map PlM.sp=l/\Sat w (Arr nn [.pointer (some o)]::Arr o [.slice out.a out.n out.c]::PSp out ps::L):=by
 obtain⟨g,⟨out,ps,h1,h2⟩,hg⟩:=h
 have h3:Sat w (Star (Arr nn [.pointer (some o)]) (Star (Arr o [.slice out.a out.n out.c]) (PSp out ps))::L):=⟨g,h2,hg⟩
 exact⟨out,ps,h1,(Sat.star.1 (Sat.star.1 h3).t1).t2⟩
theorem fgShut {nn o:Addr}{out:Sl}{ps:List PlM}{L w}(h:Sat w (Arr nn [.pointer (some o)]::Arr o [.slice out.a out.n out.c]::PSp out ps::L)):Sat w (fgC nn o (ps.map PlM.sp)::L):=
 (Sat.star.2 (Sat.star.2 ((h.mv 2).mv 2)).t1).cons fun _ hg=>⟨out,ps,rfl,hg⟩
theorem emit107 {D}{nn o:Addr}{l:List SpanM}{x:SpC}{s:SpanM}{R w}{K:Unit->WP}(hx:SpRel D x s)(hk:s.keys.length<2^32)(hl:l.length<2^32)(h:Sat w (Own D::fgC nn o l::R))(k: ∀w',Sat w' (Own D::fgC nn o (l++[s])::R)->K () w'):F107 (x.lo,x.hi,x.ks,0) nn K w:=by
 unfold F107
 obtain⟨out,ps,hps,h2⟩:=fgOpen h.t1
 clear h
 have hpl:ps.length=l.length:=by rw[<-hps,List.length_map]
 obtain⟨kg,hkg⟩:=hx.2.2.rd
 refine NewP_run h2 fun n3 w h=>Ld1 h (Ld1 h ⟨_,rfl,Ld1 h (LdN h ?_)⟩)
 refine call54 (s1:=(x.lo,x.hi,x.ks,0)) (spec54 (lo:=s.lo) (hi:=s.hi) (kg:=kg) (fun w h=>⟨h.rdB .k4 hx.1.1,h.rdB .k4 hx.2.1.1,hkg h .k4⟩) hk (h.near (w':=w.drew)) fun kx w hkx h=>⟨LdAt1 h,LdAt1 h,LdAt1 h,NewS_run h fun p w h=>⟨LdAt1 h,LdAt1 h,LdAt1 h,?_⟩⟩)
 obtain⟨a1,a2,h3⟩:=pspOpen (h.mv 5)
 refine App1 (k:=3) rfl h3 .here .k2 rfl (plc_one ⟨s.lo,s.hi,kx,s.keys⟩) ?_ (by dsimp only;omega) fun r w er ea h=>?_
 ·show(2*(out.n+1)+1024)*56<=_
  omega
 have h4:=pspSnoc (ps:=ps) (x:=⟨s.lo,s.hi,kx,s.keys⟩) (r:=r) (by dsimp only at er;omega) a2 hkx ((h.mv 3).mv 1)
 refine⟨LdAt1 h4,_,rfl,St1 h4 rfl fun w h=>k w ?_⟩
 have h5:=fgShut ((h.mv 4).mv 4)
 rw[List.map_append,hps]at h5
 exact((((h5.mv 1).tail).mv 1).tail).t1
def emitFG (nn o:Addr):EmitI where
 em:=.mk (.func 107) #[] #[.pointer (some nn)]
 C:=fun _=>fgC nn o
 mono:=fun _ h=>h
 run:=fun {D l x s R w K} hx hk hl h k=>CallV_run' (call107 (s1:=(x.lo,x.hi,x.ks,0)) (a2:=nn) (emit107 hx hk hl h k))
theorem spec72 {o:Addr}{L w}{K:Option Addr->WP}(h:Sat w L)(k: ∀f nn q w',Sat w' (Arr f [cmpV,.nilFunc,(emitFG nn o).em.enc,.slice none 0 0,.slice none 0 0,.nilFunc,.slice none 0 0,.slice none 0 0,.slice none 0 0,.bool false]::Arr q cmpCs::Arr nn [.pointer (some o)]::L)->K (some f) w'):F72 (some o) K w:=by
 unfold F72
 refine NewP_run h fun nn w h=>call24 (spec24 h fun q w h=>?_)
 have hq:=h
 unfold cmpCs at hq
 refine⟨_,rfl,Ld1 (x:=FV.mk (.func 45) #[] #[]) hq ?_⟩
 exact⟨ones_of rfl,NewP_run h fun f w h=>k f nn q w h⟩
theorem covK_take {ss:List SpanM}(y:ByteArray)(j:Nat):((covK (ss.take j) y).map (·.tr)).Sublist ((covK ss y).map (·.tr)):=by
 have:=covK_app (ss.take j) (ss.drop j) y
 rw[List.take_append_drop]at this
 rw[this,List.map_append]
 exact List.sublist_append_left _ _
theorem takeK_len (ss:List SpanM)(j:Nat):((ss.take j).flatMap (·.keys)).length<=(ss.flatMap (·.keys)).length:=by
 have:=List.take_append_drop j ss
 calc _<=((ss.take j).flatMap (·.keys)++(ss.drop j).flatMap (·.keys)).length:=by rw[List.length_append];omega
  _=_:=by rw[<-List.flatMap_append,this]
set_option maxHeartbeats 4000000 in
theorem spec42 {lst:Sl}{ys:Nat->Sl}{ss:List SpanM}{R w}{K:Sl->WP}(hrd: ∀w,Sat w R->PSpansRd w lst ys ss)(hso:ss.Pairwise fun a b=>bcmp a.lo b.lo<=0)(hz: ∀s∈ss,s.lo.size<2^28/\s.hi.size<2^28)(hkl: ∀s∈ss,s.keys.length<2^32)(hnd: ∀y,((covK ss y).map (·.tr)).Nodup)(hkn:(ss.flatMap (·.keys)).length<2^30)(hsn:ss.length<2^15)
  (h:Sat w R) (k: ∀out ps w',SpansOK (ps.map PlM.sp)->(∀y,(keysOf (ps.map PlM.sp) y).Perm (covK ss y))->(ps.map PlM.sp).length<=(ss.length+1)*(ss.length+1)->Sat w' (PSp out ps::R)->K out w'):F42 lst K w:=by
 unfold F42
 refine NewP_run h fun n2 w h=>call72 (spec72 h fun f nn q w h=>?_)
 have hln:=(hrd w h.tail.tail.tail.tail).1
 have h0:Sat w (Own (fun _=>none)::PSp nl []::Arr f [cmpV,.nilFunc,(emitFG nn n2).em.enc,.slice none 0 0,.slice none 0 0,.nilFunc,.slice none 0 0,.slice none 0 0,.slice none 0 0,.bool false]::Arr q cmpCs::Arr nn [.pointer (some n2)]::Arr n2 [.slice none 0 0]::R):=SatU.nil rfl (pspNil h)
 have h1:Sat w (fgC nn n2 []::Own (fun _=>none)::Arr f [cmpV,.nilFunc,(emitFG nn n2).em.enc,.slice none 0 0,.slice none 0 0,.nilFunc,.slice none 0 0,.slice none 0 0,.slice none 0 0,.bool false]::Arr q cmpCs::R):=fgShut (out:=nl) (ps:=[]) (((h0.mv 1).mv 5).mv 5)
 clear h h0
 have h2:=fragNew (E:=emitFG nn n2) (fmt:=.nil) (R:=Arr q cmpCs::R) ((h1.pt 1).mv 2)
 clear h1
 refine⟨fun m (z:Int) w=> ∃(j:Nat) (D:Hp) (s:FrS) (fkb:ByteArray) (out:List SpanM) (xs:List SpC) (ps:List SpanM) (x0:ByteArray),z=(j:Int)/\j<=ss.length/\m=ss.length-j/\FrOK D s fkb (ss.take j) out xs ps x0/\(∀sp,ss[j]? =some sp->bcmp x0 sp.lo<=0)/\Sat w (FX f (emitFG nn n2) s fkb D out xs (Arr q cmpCs::R)),⟨_,0,_,_,_,_,_,_,_,rfl,Nat.zero_le _,rfl,frS0_ok,fun _ _=>empty_le _,h2⟩,?_⟩
 clear h2
 rintro m z w ⟨j,D,s,fkb,out,xs,ps,x0,rfl,hj,hm,hok,hx0,h⟩
 refine ifd (fun hlt=>?_) (fun hge=>?_)
 rotate_left
 ·have hje:j=ss.length:=by omega
  rw[hje,List.take_length]at hok
  refine call74 (spec74 hok hnd hkn hsn h fun D' out' w hD h1 h2 h3 h=>?_)
  obtain⟨o,ps',hps,h4⟩:=fgOpen (h.mv 1)
  subst hps
  exact Ld1 h4 (k o ps' w h1 h2 h3 (h4.mv 2|>.pt 4|>Sat.drop 4))
 have hjl:j<ss.length:=by omega
 have hs:ss[j]? =some ss[j]:=List.getElem?_eq_getElem hjl
 have htk:ss.take (j+1)=ss.take j++[ss[j]]:=by rw[List.take_add_one,hs];rfl
 have hrow: ∀{w:World},Sat w R-> ∃e:Addr,lst.a=some e/\RdL w (e.add (j*3)) [.string (ss[j]).lo,.string (ss[j]).hi,.slice (ys j).a (ys j).n (ys j).c]/\PKeysRd w (ys j) (ss[j]).keys:=fun h=>(hrd _ h).2 j hjl
 have hnx: ∀sp,ss[j+1]? =some sp->bcmp (ss[j]).lo sp.lo<=0:=fun sp e=>by
  have hj1:=(List.getElem?_eq_some_iff.1 e).1
  have:=List.pairwise_iff_getElem.1 hso j (j+1) hjl hj1 om
  rw[List.getElem?_eq_getElem hj1]at e
  injection e with e
  rwa[e]at this
 have hmem:=List.getElem_mem hjl
 generalize ss[j]=sp at hs htk hrow hnx hmem
 have hzs:=hz sp hmem
 have hxs:=hx0 sp hs
 rw[w1 om,Int.toNat_natCast]
 obtain⟨e,he,hr,_⟩:=hrow (Sat.drop 12 h)
 refine⟨⟨by omega,hlt⟩,e,he,LdR hr (NewP_run h fun n8 w h=>StL_of (St1 h rfl fun w h=>St1 h rfl fun w h=>St1 h rfl fun w h=>?_))⟩
 simp only[StC]
 refine LdN h ?_
 replace h:=h.tail
 unfold FX FL at h
 refine call36 (s1:=(sp.lo,sp.hi,ys j)) (spec36 (s:=sp) (fun w h=>(hrow (Sat.drop 11 h)).choose_spec.2.2) (hkl sp hmem) (h.mv 6) fun D' x w hD hx h=>?_)
 have h3:Sat w (FX f (emitFG nn n2) s fkb D' out xs (Arr q cmpCs::R)):=by
  unfold FX FL
  exact h.pt 6
 refine call73 (s2:=(x.lo,x.hi,x.ks,0)) (spec73 (x:=x) (sp:=sp) (hok.mono hD) hx hxs hzs (fun y=>(hnd y).sublist (covK_take y j)) (Nat.lt_of_le_of_lt (takeK_len ss j) hkn) (by rw[List.length_take];omega) h3 fun D2 s2 fkb2 out2 xs2 ps2 x02 w hD2 hok2 hx2 h=>?_)
 rw[<-htk]at hok2
 exact⟨_,by omega,j+1,D2,s2,fkb2,out2,xs2,ps2,x02,rfl,hjl,rfl,hok2,fun sp2 e2=>bcmp_trans hx2 (hnx sp2 e2),h⟩
theorem flat_set1 {α:Type}{f:α->List Value}{k:Nat}(hf: ∀x,(f x).length=k): ∀(l:List α) (j i:Nat) (x y:α) (v:Value),l[j]? =some x->i<k->f y=(f x).set i v->(l.flatMap f).set (j*k+i) v=(l.set j y).flatMap f
 | [],j,_,_,_,_,h,_,_=>by simp at h
 |z::l,0,i,x,y,v,h,hi,hy=>by
  simp only[List.getElem?_cons_zero,Option.some.injEq]at h
  subst h
  rw[List.set_cons_zero,List.flatMap_cons,List.flatMap_cons,Nat.zero_mul,Nat.zero_add,List.set_append_left _ _ (by rw[hf];exact hi),hy]
 |z::l,j+1,i,x,y,v,h,hi,hy=>by
  have ih:=flat_set1 hf l j i x y v (by simpa using h) hi hy
  rw[List.set_cons_succ,List.flatMap_cons,List.flatMap_cons,<-ih]
  have e1:(j+1)*k+i=(f z).length+(j*k+i):=by rw[hf,Nat.add_mul];omega
  rw[e1,List.set_append_right _ _ om]
  congr 2
  omega
theorem bufSt1 {k:Nat}{d:Sl}{cs:List Value}{v:Value}{a:Addr}{o:Nat}{L w w1}{K:WP}(h:Sat w (Buf k d cs::L))[Near w w1](ha:d.a=some a)(hl:o<cs.length)(h1:v.oneCell'=true)
  (c: ∀w',Sat w' (Buf k d (cs.set o v)::L)->K w'):St (a.add o) v K w1:=by
 replace h:=h.near (w':=w1)
 obtain⟨g,hg,hr⟩:=h
 unfold Buf at hg
 rw[ha]at hg
 obtain⟨e1,sp,e2,hA⟩:=hg
 have h2:Sat w1 (Arr a (cs++sp)::L):=⟨g,hA,hr⟩
 have hat:=at_arr (p:=a) (vs:=cs++sp) (k:=o) (v:=cs[o]) (by rw[List.getElem?_append_left hl];exact List.getElem?_eq_getElem hl)
 refine⟨h1,⟨_,(h2.get hat).1⟩,(h2.get hat).2,c _ ((h2.set hat v).cons fun g' hg'=>?_)⟩
 unfold Buf
 rw[ha]
 rw[List.set_append_left _ _ hl]at hg'
 exact⟨by rw[List.length_set];exact e1,sp,by rw[List.length_set];exact e2,hg'⟩
theorem psp_len {out:Sl}{ps:List PlM}{L w}(h:Sat w (PSp out ps::L)):out.n=ps.length:=(pspOpen h).1
theorem pspKey {out:Sl}{ps:List PlM}{i j:Nat}{x:PlM}{m:KeyM}{L w w1}(h:Sat w (PSp out ps::L))[Near w w1](hx:ps[i]? =some x)(hm:x.keys[j]? =some m):
  ∃a,x.kx.a=some a/\RdL w1 (a.add (j*3)) (pkc m)/\ ∀(v:Int) (K:WP),(∀w',Sat w' (PSp out (ps.set i {x with keys:=x.keys.set j {m with tr:=v}})::L)->K w')->St ((a.add (j*3)).add 0) (.int .u64 v) K w1:=by
 replace h:=h.near (w':=w1)
 obtain⟨h1,h2,h3⟩:=pspOpen h
 have hi:i<ps.length:=(List.getElem?_eq_some_iff.1 hx).1
 have hg:ps.getD i pld=x:=by rw[List.getD_eq_getElem?_getD,hx];rfl
 have h4:=(h3.mv 1).fam_out hi
 have e4:plF ps i=Buf 3 x.kx (x.keys.flatMap pkc):=by unfold plF;rw[hg]
 rw[e4]at h4
 obtain⟨a,ha,hr⟩:=rowBuf (f:=pkc) (k:=3) (fun _=>rfl) (by decide) h4 .here hm
 refine⟨a,ha,hr,fun v K c=>?_⟩
 rw[Addr.add_add]
 have hj:j<x.keys.length:=(List.getElem?_eq_some_iff.1 hm).1
 have hl:(x.keys.flatMap pkc).length=x.keys.length*3:=flat_len_k (f:=pkc) (k:=3) (fun _=>rfl) _
 refine bufSt1 h4 ha (by rw[hl];omega) rfl fun w' h=>c w' ?_
 rw[flat_set1 (f:=pkc) (k:=3) (fun _=>rfl) x.keys j 0 m {m with tr:=v} (.int .u64 v) hm (by decide) rfl]at h
 have hl2:(ps.set i {x with keys:=x.keys.set j {m with tr:=v}}).length=ps.length:=List.length_set
 refine pspShut (by rw[hl2];exact h1) (fun y hy=>?_) ?_
 ·rcases List.mem_or_eq_of_mem_set hy with hy|rfl
  ·exact h2 y hy
  ·show x.kx.n=_
   rw[List.length_set]
   exact h2 x (List.mem_of_getElem? hx)
 ·have e5:(ps.set i {x with keys:=x.keys.set j {m with tr:=v}}).flatMap plc=ps.flatMap plc:=by
   have: ∀(l:List PlM) (i:Nat),l[i]? =some x->(l.set i {x with keys:=x.keys.set j {m with tr:=v}}).flatMap plc=l.flatMap plc:=by
    intro l
    induction l with
    |nil=>intro i h;simp at h
    | cons z l ih =>
     intro i h
     cases i with
     |zero=>
      simp only[List.getElem?_cons_zero,Option.some.injEq]at h
      subst h;rfl
     |succ i=>rw[List.set_cons_succ,List.flatMap_cons,List.flatMap_cons,ih i (by simpa using h)]
   exact this ps i hx
  rw[e5,hl2]
  have e6:Fam ps.length (plF (ps.set i {x with keys:=x.keys.set j {m with tr:=v}}))=Fam ps.length (upd (plF ps) i (Buf 3 x.kx ((x.keys.set j {m with tr:=v}).flatMap pkc))):=by
   refine Fam.congr fun q hq=>?_
   by_cases e:q=i
   ·subst e
    rw[upd_same]
    unfold plF
    rw[List.getD_eq_getElem?_getD,List.getElem?_set_self hi];rfl
   ·rw[upd_other e]
    unfold plF
    rw[List.getD_eq_getElem?_getD,List.getElem?_set_ne (Ne.symm e),<-List.getD_eq_getElem?_getD]
  rw[e6]
  exact(h.fam_in hi).mv 1
def bareK (m:KeyM):KeyM:=⟨0,m.suf,m.val⟩
def bareS (s:SpanM):SpanM:=⟨s.lo,s.hi,s.keys.map bareK⟩
set_option maxHeartbeats 2000000 in
theorem spec39 {l:Sl}{ys:Nat->Sl}{ss:List SpanM}{R w}{K:Sl->WP}(hrd: ∀w,Sat w R->PSpansRd w l ys ss)(hlen:ss.length<2^32)(hkn: ∀s∈ss,s.keys.length<2^32)(h:Sat w R)
  (k: ∀out ps w',ps.map PlM.sp=ss.map bareS->Sat w' (PSp out ps::R)->K out w'):F39 l K w:=by
 unfold F39
 have hn:l.n=ss.length:=(hrd w h).1
 refine⟨fun m (z:Sl×Int) w=> ∃(j:Nat) (ps:List PlM),z.2=(j:Int)/\j<=ss.length/\m=ss.length-j/\ps.map PlM.sp=(ss.take j).map bareS/\Sat w (PSp z.1 ps::R),⟨_,0,[],rfl,Nat.zero_le _,rfl,rfl,pspNil h⟩,?_⟩
 clear h
 rintro m ⟨out,z⟩ w ⟨j,ps,e,hj,hm,hps,h⟩
 dsimp only at e h|-
 subst e
 refine ifd (fun hlt=>?_) (fun hge=>?_)
 ·have hjl:j<ss.length:=by omega
  obtain⟨e,he,hr,hy⟩:=(hrd w h.tail).2 j hjl
  have hy': ∀w,Sat w R->PKeysRd w (ys j) (ss[j]).keys:=fun w h=>by
   obtain⟨_,_,_,h2⟩:=(hrd w h).2 j hjl
   exact h2
  have hks:=hkn _ (List.getElem_mem hjl)
  have htk:ss.take (j+1)=ss.take j++[ss[j]]:=by rw[List.take_add_one,List.getElem?_eq_getElem hjl];rfl
  generalize ss[j]=s at hr hy' hks htk
  have hpl:ps.length=j:=by
   have:=congrArg List.length hps
   rw[List.length_map,List.length_map,List.length_take]at this
   omega
  rw[w1 om,Int.toNat_natCast]
  refine⟨⟨by omega,hlt⟩,e,he,LdR hr (NewP_run h fun n6 w h=>StL_of (St1 h rfl fun w h=>St1 h rfl fun w h=>St1 h rfl fun w h=>Ld1 h (Ld1 h (NewP_run h fun n9 w h=>StL_of (St1 h rfl fun w h=>St1 h rfl fun w h=>St1 h rfl fun w h=>Ld1 h ?_)))))⟩
  have hyn:=(hy' w h.tail.tail.tail).1
  refine⟨fun m (z:Int) w=> ∃(i:Nat) (kx:Sl),z=(i:Int)/\i<=s.keys.length/\m=s.keys.length-i/\kx.n=i/\Sat w (Arr n9 [.string s.lo,.string s.hi,.slice kx.a kx.n kx.c]::Buf 3 kx (((s.keys.take i).map bareK).flatMap pkc)::Arr n6 [.string s.lo,.string s.hi,.slice (ys j).a (ys j).n (ys j).c]::PSp out ps::R),⟨_,0,nl,rfl,Nat.zero_le _,rfl,rfl,(h.bufNil 3).mv 1⟩,?_⟩
  clear h
  rintro m' z w ⟨i,kx,rfl,hi,hm',hkn',h⟩
  refine ifd (fun hlt2=>?_) (fun hge2=>?_)
  ·dsimp only at hlt2
   have hil:i<s.keys.length:=by omega
   obtain⟨e2,he2,hr2⟩:=(hy' w h.tail.tail.tail.tail).2 i hil
   have htk2:s.keys.take (i+1)=s.keys.take i++[s.keys[i]]:=by rw[List.take_add_one,List.getElem?_eq_getElem hil];rfl
   generalize s.keys[i]=q at hr2 htk2
   rw[w1 om,Int.toNat_natCast]
   refine⟨⟨by omega,hlt2⟩,e2,he2,LdR hr2 (NewP_run h fun a7 w h=>StL_of (St1 h rfl fun w h=>St1 h rfl fun w h=>St1 h rfl fun w h=>Ld1 h (Ld1 h (Ld1 h (NewS_run h fun p w h=>?_)))))⟩
   refine App1 (k:=3) rfl h .k3 .here rfl (pkc_one (bareK q)) ?_ (by dsimp only;omega) fun r w er ea h=>?_
   ·show(2*(kx.n+1)+1024)*40<=_
    omega
   dsimp only at er
   refine St1 h rfl fun w h=>⟨_,?_,i+1,r,rfl,hil,rfl,by omega,?_⟩
   ·omega
   ·rw[htk2,List.map_append,List.flatMap_append]
    have e9:([q].map bareK).flatMap pkc=pkc (bareK q):=by simp
    rw[e9]
    exact((((h.mv 1).tail.mv 1).tail.mv 0).mv 1)
  ·dsimp only at hge2
   have hil:i=s.keys.length:=by omega
   subst hil
   rw[List.take_length]at h
   refine LdN h (NewS_run h fun p w h=>?_)
   obtain⟨a1,a2,h2⟩:=pspOpen (h.mv 4)
   refine App1 (k:=3) rfl h2 .here .k2 rfl (plc_one ⟨s.lo,s.hi,kx,s.keys.map bareK⟩) ?_ om fun r w er ea h=>?_
   ·show(2*(out.n+1)+1024)*56<=_
    omega
   have h3:=pspSnoc (ps:=ps) (x:=⟨s.lo,s.hi,kx,s.keys.map bareK⟩) (r:=r) om a2 (by rw[List.length_map];exact hkn') ((((((h.mv 2).tail.mv 2).tail.mv 3).tail.mv 1).mv 2).mv 2)
   refine⟨_,?_,j+1,ps++[⟨s.lo,s.hi,kx,s.keys.map bareK⟩],rfl,hjl,rfl,by rw[List.map_append,hps,htk,List.map_append];rfl,h3⟩
   omega
 ·have:j=ss.length:=by omega
  subst this
  rw[List.take_length]at hps
  exact k out ps w hps h
end Go.Proofs.YtpkoddfamelnhaaGreatDoor
