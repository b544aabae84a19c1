/- Part 24 of the proof of fnBatchHistory_card. Conditions: none. -/
import Derived.Test.YtpkoddfamelnhaaGreatDoorH22
import Derived.Test.YtpkoddfamelnhaaGreatDoorH23
set_option linter.unusedVariables false
set_option linter.unusedSimpArgs false
namespace Go.Tr
theorem ones_of {vs:List Value}(h:vs.all Value.oneCell'=true): ∀v∈vs,v.oneCell'=true:=List.all_eq_true.1 h
theorem rdBuf {w:World}{L R}{k:Nat}{d:Sl}{cs:List Value}(h:Sat w L)(t:Take L (Buf k d cs) R){j:Nat}{v:Value}(e:cs[j]? =some v): ∃a,d.a=some a/\w.cell? (a.add j)=some v:=by
 obtain⟨g,hg,hh,_⟩:=h.take t
 unfold Buf at hg
 cases ha:d.a with
 |none=>rw[ha]at hg;rw[hg.2.2.1]at e;simp at e
 |some a=>
  rw[ha]at hg
  obtain⟨_,sp,_,hc⟩:=hg
  have hj:j<cs.length:=(List.getElem?_eq_some_iff.1 e).1
  exact⟨a,rfl,(hh _ _ (hc.1 j v (by rw[List.getElem?_append_left hj];exact e))).1⟩
end Go.Tr
namespace Go.Proofs.YtpkoddfamelnhaaGreatDoor
open Go Go.Tr
set_option maxRecDepth 100000
def zrow (_:Nat):List Value:=[.nilIface,.int .i8 (0:Int),.slice none 0 0,.pointer none]
def lrow (S:Nat->LevS)(j:Nat)(i:Nat):List Value:=if i<j then [.iface 223 (.pointer (some (S i).it)),.int .i8 (0:Int),.slice none 0 0,.pointer none]else zrow i
def mhd (b ui:Addr):List Value:=[.pointer (some b),.slice none 0 0,.slice none 0 0,.iface 214 (.pointer (some ui)),.slice none 0 0,.slice none 0 0,.slice none 0 0,.int .i8 (0:Int),.nilIface,.int .i8 (0:Int)]
def mc0 (D:Hp)(m b ui:Addr)(k:Nat)(S:Nat->LevS):MC:=⟨D,m,b,k,10,S,.iface 214 (.pointer (some ui))⟩
theorem spec59 {D}{m b ui:Addr}{S:Nat->LevS}{n:Nat}{xs:List Value}{it kk lv im:Sl}{rev:Bool}{fv:Value}{R w}{K:Unit->WP}(hxs:xs.length=70)(hn:n<=10)(hit:it.n=n)(hfv:fv.oneCell'=true)
  (h:Sat w (Arr m xs::Arr b [.slice kk.a kk.n kk.c,.slice lv.a lv.n lv.c]::Arr (b.add 2) [fv,.bool rev,.slice im.a im.n im.c]::Buf 1 it (itVs S n)::Fam n (itF S)::Own D::R))
  (k: ∀w',Sat w' (hp (mX (mc0 D m b ui n S) (fun _=> -1)) (b.add 2) (m.add 50) rev 0 10 (fun _=>0) (Arr m (mhd b ui)::Arr b [.slice kk.a kk.n kk.c,.slice (some (m.add 10)) n 10]::R))->K () w'):F59 (some m) (.mk (.func 45) #[] #[]) (.mk 214 (.pointer (some ui))) (some b) it K w:=by
 unfold F59
 refine⟨ones_of rfl,_,rfl,StL_all h (by rw[hxs];rfl) (ones_of rfl) fun w h=>?_⟩
 have h2:Sat w (Arr m (mhd b ui)::Arr (m.add 10) (flat zrow 10)::Arr (m.add 50) (flat (fun _=>[.pointer none,.int .i64 (0:Int)]) 10)::Arr b [.slice kk.a kk.n kk.c,.slice lv.a lv.n lv.c]::Arr (b.add 2) [fv,.bool rev,.slice im.a im.n im.c]::Buf 1 it (itVs S n)::Fam n (itF S)::Own D::R):=
  Sat.splits [mhd b ui,flat zrow 10,flat (fun _=>[.pointer none,.int .i64 (0:Int)]) 10] h
 clear h
 have h3:=(((h2.t1.rows (k:=4) (fun j _=>rfl)).t2).rows (k:=2) (fun j _=>rfl)).t2
 unfold mhd at h3
 refine⟨_,rfl,Ld1 h3 ⟨_,rfl,St1 h3 rfl fun w h=>?_⟩⟩
 refine⟨_,rfl,Ld1 h ⟨_,rfl,Ld1 h ⟨_,rfl,Ld1 h ⟨_,rfl,Ld1 h ?_⟩⟩⟩⟩
 refine⟨fun _ w=>Sat w (Arr m (mhd b ui)::Rws (m.add 50) 2 10 (fun _=>[.pointer none,.int .i64 (0:Int)])::Rws (m.add 10) 4 10 zrow::Arr b [.slice kk.a kk.n kk.c,.slice (some (m.add 10)) n 10]::Arr (b.add 2) [cmpV,.bool rev,.slice (some (m.add 50)) 0 10]::Buf 1 it (itVs S n)::Fam n (itF S)::Own D::R),?_,?_⟩
 rotate_left
 ·refine ifd (fun _=>?_) (fun hh=>by omega)
  refine⟨_,rfl,Ld1 h ⟨_,rfl,⟨by omega,by omega⟩,_,rfl,St1 h rfl fun w h=>?_⟩⟩
  refine⟨_,rfl,Ld1 h ⟨_,rfl,⟨by omega,by omega⟩,_,rfl,St1 h rfl fun w h=>?_⟩⟩
  rw[Addr.add_add,hit]at h
  exact h
 clear h h2 h3
 intro _ w h
 unfold mhd at h
 refine⟨_,rfl,Ld1 h ⟨_,rfl,Ld1 h ?_⟩⟩
 refine⟨fun q (i:Int) w=> ∃j:Nat,i=j/\j<=n/\q=n-j/\Sat w (Rws (m.add 10) 4 10 (lrow S j)::Arr m (mhd b ui)::Rws (m.add 50) 2 10 (fun _=>[.pointer none,.int .i64 (0:Int)])::Arr b [.slice kk.a kk.n kk.c,.slice (some (m.add 10)) n 10]::Arr (b.add 2) [cmpV,.bool rev,.slice (some (m.add 50)) 0 10]::Buf 1 it (itVs S n)::Fam n (itF S)::Own D::R),
  ⟨_,0,rfl,Nat.zero_le _,rfl,?_⟩,?_⟩
 ·have e:Rws (m.add 10) 4 10 (lrow S 0)=Rws (m.add 10) 4 10 zrow:=Rws.congr fun j _=>by unfold lrow;rw[if_neg om]
  rw[e]
  exact h.t2
 clear h
 rintro q i w ⟨j,rfl,hj,hq,h⟩
 have h':=h
 unfold mhd at h
 refine ifd (fun hlt=>?_) (fun hge=>?_)
 ·replace hlt:(j:Int)<n:=hlt
  have hjn:j<n:=by omega
  have ew:IntKind.i64.wrap ((j:Int)+1)=((j+1:Nat):Int):=w1 om
  rw[ew,Int.toNat_natCast]
  obtain⟨a,ha,hr⟩:=rdBuf (j:=j) (v:=.iface 223 (.pointer (some (S j).it))) (h'.near (w':=w.drew)) .k5 (by unfold itVs;rw[List.getElem?_map,List.getElem?_range hjn];rfl)
  refine⟨_,rfl,Ld1 h ⟨_,rfl,Ld1 h ?_⟩⟩
  refine⟨⟨by omega,by rw[hit];exact hlt⟩,a,ha,?_⟩
  rw[Nat.mul_one]
  refine LdC (x:=IV.mk 223 (.pointer (some (S j).it))) hr ?_
  refine⟨ones_of rfl,⟨by omega,hlt⟩,_,rfl,?_⟩
  refine rowSet (k:=4) (j:=j) (h'.near (w':=w.drew)) om ?_ rfl (ones_of rfl) fun w h=>?_
  ·unfold lrow zrow;split<;>rfl
  ·refine⟨n-(j+1),by omega,j+1,rfl,hjn,rfl,?_⟩
   rw[Rws.congr (g:=lrow S (j+1))]at h
   ·exact h
   ·intro i _
    by_cases e:i=j
    ·subst e;rw[upd_same];unfold lrow;rw[if_pos om];rfl
    ·rw[upd_other e];unfold lrow
     by_cases e2:i<j
     ·rw[if_pos e2,if_pos om]
     ·rw[if_neg e2,if_neg om]
 ·replace hge: ¬(j:Int)<n:=hge
  have:j=n:=by omega
  subst this
  have h1:Sat w (Fam j (fun i=>Arr ((m.add 10).add (i*4)) (lrow S j i))::Fam j (itF S)::Arr m (mhd b ui)::Rws (m.add 50) 2 10 (fun _=>[.pointer none,.int .i64 (0:Int)])::Arr b [.slice kk.a kk.n kk.c,.slice (some (m.add 10)) j 10]::Arr (b.add 2) [cmpV,.bool rev,.slice (some (m.add 50)) 0 10]::Own D::R):=by
   have h0:=Sat.fam_le hn h'
   have h1:=(h0.mv 5).tail
   exact((h1.mv 5).mv 1)
  have h2:=h1.fam_merge (e:=mlev (mc0 D m b ui j S) (fun _=> -1)) fun i hi g hg=>by
   refine⟨⟨none,0,0⟩,fun h0=>by dsimp only at h0;omega,?_⟩
   have e1:lkind ((mc0 D m b ui j S).S i).n (-1)=0:=by unfold lkind;rw[if_neg om]
   have e2:lptr ((mc0 D m b ui j S).S i) (-1)=none:=by unfold lptr;rw[if_neg om]
   rw[e1,e2]
   unfold lrow at hg
   rw[if_pos hi]at hg
   exact hg
  have h3:=(h2.t2).fam_mono (d:=slot (mX (mc0 D m b ui j S) (fun _=> -1)) (m.add 50) 0 (fun _=>0)) fun i hi g hg=>by
   unfold slot
   rw[if_neg om]
   exact⟨_,_,hg⟩
  refine k w ?_
  unfold hp
  exact((((((h3.mv 3).mv 3).mv 5).mv 4).mv 4).mv 5)
def ms0 :MSt:=⟨nl,nl,nl,nl,nl,0,0,nl,0,[],nl,.empty,false,0,fun _=>0,fun _=> -1⟩
def uv0 :UV:=⟨.nilFunc,nl,0,[]⟩
def ds0 :DSt:=⟨none,0,nl,nl,nl,0,nl,nl,nl,fun _=>none,[],.empty⟩
theorem spec33 {D}{ui bf cq:Addr}{sn:Int}{S:Nat->LevS}{n:Nat}{xs ys zs:List Value}{it:Sl}{R w}{K:IV->WP}(hxs:xs.length=70)(hys:ys.length=9)(hzs:zs.length=12)(hn:n<=10)(hit:it.n=n)
  (hq0:DAt D (cq.add 0) cmpV) (hq1:DAt D (cq.add 1) eqV) (hq5:DAt D (cq.add 5) .nilFunc)
  (h : Sat w (Arr ui [.int .u64 0, .pointer none] :: Arr (ui.add 2) xs :: Arr (ui.add 72) ys :: Arr (ui.add 81) zs :: Arr (ui.add 93) [.bool false] :: Arr (ui.add 94) [.pointer none] :: Arr bf [.slice none 0 0, .slice none 0 0] ::
   Arr (bf.add 2) [.nilFunc,.bool false,.slice none 0 0]::Arr (bf.add 5) [.slice none 0 0]::Arr (bf.add 6) [.slice none 0 0,.slice none 0 0,.slice none 0 0]::Arr (bf.add 9) [.nilFunc,.slice none 0 0]::Buf 1 it (itVs S n)::Fam n (itF S)::Own D::R))
  (k: ∀w',Sat w' (WX (mc0 D (ui.add 2) bf ui n S) ms0 ⟨ui,bf,cq,sn⟩ uv0 (ui.add 72) none (ui.add 81) ds0 R)->K (.mk 222 (.pointer (some (ui.add 81)))) w'):
  F33 (some ui) (some cq) sn nl nl none none false (some bf) it K w:=by
 unfold F33
 refine⟨_,rfl,St1 h rfl fun w h=>⟨_,rfl,St1 h rfl fun w h=>⟨_,rfl,St1 h rfl fun w h=>?_⟩⟩⟩
 have hc0:=h.near (w':=w.drew)
 refine⟨_,rfl,_,rfl,LdC (h.near.dat .k13 hq0) ⟨_,rfl,?_⟩⟩
 have h1:Sat w.drew (Arr (ui.add 2) xs::Arr bf [.slice nl.a nl.n nl.c,.slice nl.a nl.n nl.c]::Arr (bf.add 2) [.nilFunc,.bool false,.slice nl.a nl.n nl.c]::Buf 1 it (itVs S n)::Fam n (itF S)::Own D::Arr ui [.int .u64 sn,.pointer (some cq)]::Arr (ui.add 72) ys::Arr (ui.add 81) zs::Arr (ui.add 93) [.bool false]::Arr (ui.add 94) [.pointer none]::Arr (bf.add 5) [.slice none 0 0]::Arr (bf.add 6) [.slice none 0 0,.slice none 0 0,.slice none 0 0]::Arr (bf.add 9) [.nilFunc,.slice none 0 0]::R):=(((((((h.near (w':=w.drew)).mv 13).mv 13).mv 13).mv 10).mv 10).mv 6)
 refine call59 (cmp2:=.mk (.func 45) #[] #[]) (transformer3:=.mk 214 (.pointer (some ui))) (spec59 (S:=S) (n:=n) (b:=bf) hxs hn hit rfl h1 fun w h=>?_)
 clear h1 hc0
 unfold hp at h
 refine⟨_,rfl,_,rfl,LdC (h.near.dat .k3 hq0) ⟨_,rfl,LdC (h.near.dat .k3 hq5) ⟨_,rfl,?_⟩⟩⟩
 refine call60 (cmp2:=.mk (.func 45) #[] #[]) (split3:=.nil) (iter4:=.mk 217 (.pointer (some (ui.add 2)))) ?_
 unfold F60
 have hB:=h.mv 7
 simp only[mv]at hB
 refine⟨ones_of rfl,_,rfl,StL_all hB (by rw[hys];rfl) (ones_of rfl) fun w h=>?_⟩
 refine ifb (fun hh=>by cases hh) (fun _=>⟨_,rfl,_,rfl,_,rfl,?_⟩)
 refine call61 (comparer2:=some cq) (iter3:=.mk 219 (.pointer (some (ui.add 72)))) (equal4:=.mk 214 (.pointer (some ui))) (reducer5:=.mk (.func 63) #[] #[]) ?_
 unfold F61
 refine⟨_,rfl,LdC (h.near.dat .k4 hq1) ?_⟩
 have hD:=h.mv 8
 simp only[mv]at hD
 refine⟨ones_of rfl,_,rfl,StL_all hD (by rw[hzs];rfl) (ones_of rfl) fun w h=>?_⟩
 refine⟨_,rfl,St1 h rfl fun w h=>⟨_,rfl,?_⟩⟩
 refine⟨.mk 222 (.pointer (some (ui.add 81))),rfl,k w ?_⟩
 have e1:Sat w (Spr nl::Buf 3 nl []::Buf 1 nl (bytesOf .empty)::_):=SatU.nil (show Spr nl _ from⟨rfl,rfl,fun _=>rfl⟩) (Sat.bufNil 3 (Sat.bufNil 1 h))
 have e2:Sat w (Buf 3 nl []::Buf 1 nl (bytesOf .empty)::Buf 3 nl []::Own (fun _=>none)::Spr nl::Buf 3 nl []::Buf 1 nl (bytesOf .empty)::_):=Sat.bufNil 3 (Sat.bufNil 1 (Sat.bufNil 3 (SatU.nil rfl e1)))
 exact(((((((((((((((((((((e2.mv 6).mv 6).mv 6).mv 6).mv 19).mv 8).mv 9).mv 9).mv 20).mv 19).mv 19).mv 19).mv 13).mv 13).mv 20).mv 20).mv 20).mv 20).mv 20).mv 20).mv 20)
def pkc (m:KeyM):List Value:=[.int .u64 m.tr,.string m.suf,.string m.val]
theorem pkc_one (m:KeyM): ∀v∈pkc m,v.oneCell'=true:=ones_of rfl
theorem spec98 {x:Sl}{kg:Nat->KC}{ks:List KeyM}{R w}{K:Sl->WP}(hrd: ∀w,Sat w R->KSRd w x kg ks)(hlen:ks.length<2^32)(h:Sat w R)
  (k: ∀out w',out.n=ks.length->Sat w' (Buf 3 out (ks.flatMap pkc)::R)->K out w'):F98 x K w:=by
 unfold F98
 have hn:x.n=ks.length:=(hrd w h).1
 refine⟨fun m (z:Sl×Int) w=> ∃j:Nat,z.2=j/\j<=ks.length/\m=ks.length-j/\z.1.n=j/\Sat w (Buf 3 z.1 ((ks.take j).flatMap pkc)::R),⟨_,0,rfl,Nat.zero_le _,rfl,rfl,Sat.bufNil 3 h⟩,?_⟩
 clear h
 rintro m ⟨out,i⟩ w ⟨j,e,hj,hm,hon,h⟩
 dsimp only at e hon|-
 subst e
 refine ifd (fun hlt=>?_) (fun hge=>?_)
 ·have hjl:j<ks.length:=by omega
  have ew:IntKind.i64.wrap ((j:Int)+1)=((j+1:Nat):Int):=w1 om
  rw[ew,Int.toNat_natCast]
  obtain⟨e,he,hr,g0,g1,g2⟩:=(hrd w h.tail).2 j hjl
  have rds: ∀w,Sat w R->RdB w (kg j).2.1.a (kg j).2.1.n (ks[j]).suf/\RdB w (kg j).2.2.a (kg j).2.2.n (ks[j]).val:=fun w h=>by
   obtain⟨_,_,_,_,f1,f2⟩:=(hrd w h).2 j hjl
   exact⟨f1,f2⟩
  unfold kcells at hr
  refine⟨⟨by omega,hlt⟩,e,he,LdR hr ?_⟩
  refine NewP_run h fun n6 w h=>StL_of (St1 h rfl fun w h=>St1 h rfl fun w h=>St1 h rfl fun w h=>?_)
  refine Ld1 h (Ld1 h ⟨_,(rds w h.tail.tail).1,Ld1 h ⟨_,(rds w h.tail.tail).2,?_⟩⟩)
  refine NewS_run h fun p w h=>?_
  rw[g0]at h
  refine App1 (k:=3) rfl h .k2 .here rfl (pkc_one ks[j]) ?_ om fun r w er ea h=>?_
  ·show(2*(out.n+1)+1024)*40<=_
   omega
  have h2:Sat w (Buf 3 r ((ks.take j).flatMap pkc++pkc ks[j])::R):=(h.t1.tail).t1.tail
  refine⟨_,?_,j+1,rfl,hjl,rfl,by show r.n=j+1;omega,?_⟩
  ·omega
  ·have e1:ks.take (j+1)=ks.take j++[ks[j]]:=by rw[List.take_add_one,List.getElem?_eq_getElem hjl];rfl
   rw[e1,List.flatMap_append]
   simpa using h2
 ·have:j=ks.length:=by omega
  subst this
  rw[List.take_length]at h
  exact k out w hon h
theorem spec54 {x:Sl×Sl×Sl×Int}{kg:Nat->KC}{lo hi:ByteArray}{ks:List KeyM}{R w}{K:ByteArray×ByteArray×Sl->WP}(hrd: ∀w,Sat w R->RdB w x.1.a x.1.n lo/\RdB w x.2.1.a x.2.1.n hi/\KSRd w x.2.2.1 kg ks)(hlen:ks.length<2^32)(h:Sat w R)
  (k: ∀out w',out.n=ks.length->Sat w' (Buf 3 out (ks.flatMap pkc)::R)->K (lo,hi,out) w'):F54 x K w:=by
 unfold F54
 refine NewP_run h fun n2 w h=>NewP_run h fun n3 w h=>?_
 have r0:=hrd w h.tail.tail
 refine Ld1 h ⟨lo,Near.rdB r0.1,Ld1 h ⟨hi,Near.rdB r0.2.1,Ld1 h ?_⟩⟩
 refine call98 (l1:=x.2.2.1) (spec98 (R:=Arr n3 _::Arr n2 _::R) (fun w h=>(hrd w h.tail.tail).2.2) hlen (h.near (w':=w.drew)) fun out w ho h=>?_)
 have r1:=hrd w h.tail.tail.tail
 refine⟨r1.2.1,LdAt1 h,r1.1,LdAt1 h,StL_of (St1 h rfl fun w h=>St1 h rfl fun w h=>St1 h rfl fun w h=>LdN h ?_)⟩
 exact k out w ho (h.t1.tail.t1.tail)
theorem Sat.drop {w}: ∀(n:Nat) {L:List Chunk},Sat w L->Sat w (L.drop n)
 |0,_,h=>h
 |n+1,[],h=>h
 |n+1,_::_,h=>Sat.drop n h.tail
def AnsRes (c:MC)(v:UC)(kb:ByteArray)(okk:Bool)(lo hi:ByteArray)(ks:List KeyM):Prop:=
 (okk=false/\ks=[]/\ ¬covd c kb)\/(okk=true/\((bcmp lo kb<=0/\bcmp kb hi<0/\IsC v.sn (keysAt c kb) (ks.map svOf))\/(bcmp kb lo<0/\ ¬covd c kb)))
theorem spec32 {c:MC}{v:UC}{bi di sp:Addr}{kb:ByteArray}{R w}{K:Sl->WP}(cx:CtxOK c v)(hcq:DAt c.D (v.cq.add 0) cmpV)(h:Sat w (WX c ms0 v uv0 bi none di ds0 (Arr sp [.int .u8 4,.string kb]::R)))
  (k: ∀out okk lo hi kx ks w',AnsRes c v kb okk lo hi ks->out.n=1->kx.n=ks.length->ks.length<2^32->Sat w' (Buf 5 out [.bool true,.bool okk,.string lo,.string hi,.slice kx.a kx.n kx.c]::Buf 3 kx (ks.flatMap pkc)::Arr sp [.int .u8 4,.string kb]::R)->K out w'):F32 (.mk 222 (.pointer (some di))) ⟨some sp,1,1⟩ K w:=by
 unfold F32
 refine⟨fun m (z:Sl×Bool×Int×Int) w=>(m=1/\z=(nl,false,0,0)/\Sat w (WX c ms0 v uv0 bi none di ds0 (Arr sp [.int .u8 4,.string kb]::R)))\/(m=0/\z.2.2.2=1/\ ∃okk lo hi kx ks,AnsRes c v kb okk lo hi ks/\z.1.n=1/\kx.n=ks.length/\ks.length<2^32/\
   Sat w (Buf 5 z.1 [.bool true,.bool okk,.string lo,.string hi,.slice kx.a kx.n kx.c]::Buf 3 kx (ks.flatMap pkc)::Arr sp [.int .u8 4,.string kb]::R)),⟨1,.inl ⟨rfl,rfl,h⟩⟩,?_⟩
 clear h
 rintro m z w (⟨rfl,rfl,h⟩|⟨rfl,hz,okk,lo,hi,kx,ks,ha,ho,hk,hl,h⟩)
 rotate_left
 ·rw[hz]
  refine ifd (fun hh=>by dsimp only at hh;omega) (fun _=>k _ okk lo hi kx ks w ha ho hk hl h)
 dsimp only
 refine ifd (fun _=>?_) (fun hh=>by omega)
 refine⟨⟨by omega,by omega⟩,sp,rfl,?_⟩
 rw[show(0:Int).toNat*2=0 from rfl,Addr.add_zero]
 have hst:=h.rdL .k21
 refine LdR hst ?_
 refine NewP_run h fun n7 w h=>StL_of (St1 h rfl fun w h=>St1 h rfl fun w h=>?_)
 refine Ld1 h ?_
 refine call58 ?_
 unfold F58
 refine⟨fun b w=>b=true/\Sat w (Arr n7 [.int .u8 4,.string kb]::WX c ms0 v uv0 bi none di ds0 (Arr sp [.int .u8 4,.string kb]::R)),?_,?_⟩
 rotate_left
 ·exact ife (fun hh=>by omega) fun _=>ife (fun hh=>by omega) fun _=>ife (fun _=>⟨rfl,h⟩) fun hh=>(hh rfl).elim
 clear h hst
 rintro _ w ⟨rfl,h⟩
 refine ifb (fun _=>?_) (fun hh=>by cases hh)
 refine ifn (fun hh=>by cases hh) (fun _=>?_)
 have h21:Sat w (WX c ms0 v uv0 bi none di ds0 (Arr n7 [.int .u8 4,.string kb]::Arr sp [.int .u8 4,.string kb]::R)):=h.pt 21
 clear h
 refine⟨fun(x:Option Addr) w=> ∃s' u' isp' d',Sat w (WX c s' v u' bi isp' di d' (Arr n7 [.int .u8 4,.string kb]::Arr sp [.int .u8 4,.string kb]::R))/\SeekRes c v kb x (fun p x kg lo hi ks=> ∀R'' w'',Sat w'' (WX c s' v u' bi isp' di d' R'')->SpanRd w'' p x kg lo hi ks),?_,?_⟩
 rotate_left
 ·have hn7:=h21.rdL .k21
  refine LdC (v:=.int .u8 4) (hn7 0 _ rfl) ?_
  refine ife (fun hh=>by omega) fun _=>ife (fun hh=>by omega) fun _=>ife (fun hh=>by omega) fun _=>ife (fun hh=>by omega) fun _=>ife (fun _=>?_) fun hh=>(hh rfl).elim
  refine LdC (v:=.string kb) (hn7 1 _ rfl) ?_
  refine BytesP_run h21 fun p cc w hcc h=>?_
  have h22:Sat w (WX c ms0 v uv0 bi none di ds0 (Arr p (bytesOf kb++List.replicate (cc-kb.size) (Value.int .u8 0))::Arr n7 [.int .u8 4,.string kb]::Arr sp [.int .u8 4,.string kb]::R)):=h.pt 21
  refine CallI_run m222SeekGE (call260 (key2:=⟨some p,kb.size,cc⟩) (spec260 (kb:=kb) cx ⟨Nat.le_refl _,by decide⟩ (by decide) hcq .here (fun w L h=>⟨rfl,(h.rdL .here).left⟩) h22 fun r s' u' isp' d' w h hr=>?_))
  exact⟨s',u',isp',d',(h.mv 21).tail,hr⟩
 clear h21
 rintro x w ⟨s',u',isp',d',h,hres⟩
 refine NewP_run h fun n14 w h=>StL_of (St1 h rfl fun w h=>St1 h rfl fun w h=>St1 h rfl fun w h=>St1 h rfl fun w h=>St1 h rfl fun w h=>?_)
 refine⟨fun _ w=> ∃okk lo hi kx ks,AnsRes c v kb okk lo hi ks/\kx.n=ks.length/\ks.length<2^32/\Sat w (Arr n14 [.bool true,.bool okk,.string lo,.string hi,.slice kx.a kx.n kx.c]::Buf 3 kx (ks.flatMap pkc)::Arr n7 [.int .u8 4,.string kb]::Arr sp [.int .u8 4,.string kb]::R),?_,?_⟩
 ·clear h hres
  rintro _ w ⟨okk,lo,hi,kx,ks,ha,hk,hl,h⟩
  refine Ld1 h (LdN h (NewS_run h fun p w h=>?_))
  refine App1 (k:=5) (old:=[]) (new:=[.bool true,.bool okk,.string lo,.string hi,.slice kx.a kx.n kx.c]) rfl (h.bufNil 5) .here .k1 rfl (ones_of rfl) (by decide) (by decide) fun r w er ea h=>?_
  refine⟨0,by omega,.inr ⟨rfl,by rw[wi64 om om];rfl,okk,lo,hi,kx,ks,ha,er,hk,hl,?_⟩⟩
  have h2:=(h.t1.tail).t1.tail
  exact(h2.mv 2).tail
 ·rcases hres with⟨rfl,hnc⟩|⟨p,xx,kg,lo,hi,ks,rfl,hrd,hlen,hres⟩
  ·refine ifNNone ⟨false,.empty,.empty,nl,[],.inl ⟨rfl,rfl,hnc⟩,rfl,by decide,?_⟩
   have h2:Sat w (Arr n14 [.bool true,.bool false,.string .empty,.string .empty,.slice none 0 0]::Arr n7 [.int .u8 4,.string kb]::Arr sp [.int .u8 4,.string kb]::R):=Sat.drop 21 (h.pt 21)
   exact(h2.bufNil 3).t1
  ·have h0:=hrd _ _ h.tail
   refine ifNSome ⟨_,rfl,LdR h0.1 ?_⟩
   refine call54 (s1:=xx) (spec54 (R:=Arr n14 _::WX c s' v u' bi isp' di d' _) (fun w h=>(hrd _ w h.tail).2) hlen h fun out w ho h=>?_)
   refine St1 h rfl fun w h=>StL_of (St1 h rfl fun w h=>St1 h rfl fun w h=>St1 h rfl fun w h=>?_)
   refine⟨true,lo,hi,out,ks,.inr ⟨rfl,hres⟩,ho,hlen,?_⟩
   exact Sat.drop 21 ((h.pt 22).pt 21)
structure FrOK (D:Hp)(s:FrS)(fkb:ByteArray)(ss out:List SpanM)(xs:List SpC)(ps:List SpanM)(x0:ByteArray):Prop where
 rel:SpsRel D xs ps
 pn:s.pend.n=ps.length
 dn:s.done.n=0
 fin:s.fin=false
 fk:bcmp fkb x0<=0
 inv:FrInv ss out ps x0
theorem FrOK.mono {D D':Hp}(hd:D.le D'){s:FrS}{fkb:ByteArray}{ss out:List SpanM}{xs:List SpC}{ps:List SpanM}{x0:ByteArray}(h:FrOK D s fkb ss out xs ps x0):FrOK D' s fkb ss out xs ps x0:=⟨h.rel.mono hd,h.pn,h.dn,h.fin,h.fk,h.inv⟩
theorem bufRd {w}{k:Nat}{d:Sl}{cs:List Value}{L}(h:Sat w (Buf k d cs::L))(hn:cs≠ []): ∃a,d.a=some a/\RdL w a cs:=by
 obtain⟨g,hc,hg,_⟩:=h
 unfold Buf at hc
 cases e:d.a with
 |none=>rw[e]at hc;exact absurd hc.2.2.1 hn
 |some a=>
  rw[e]at hc
  obtain⟨g1,sp,g2,g3⟩:=hc
  exact⟨a,rfl,RdL.left (ys:=sp) fun j v e=>(hg _ _ (g3.1 j v e)).1⟩
theorem pendApp {E:EmitI}{f n3 n4:Addr}{s:FrS}{fkb:ByteArray}{D}{l:List SpanM}{xs:List SpC}{x:SpC}{R}{w:World}{K:Unit->WP}(hb:s.pend.n<2^32)
  (h:Sat w (Arr n4 (spc x)::Arr n3 [.pointer (some f)]::FX f E s fkb D l xs R))
  (k: ∀p' w',p'.n=s.pend.n+1->Sat w' (FX f E {s with pend:=p'} fkb D l (xs++[x]) R)->K () w'):
  Ld (.one .ptr) n3 (fun(x19:Option Addr) w=>Ld (.one .ptr) n3 (fun(x20:Option Addr) w=> ∃p21,x20=some p21/\Ld (.one .sl) (p21.add 3) (fun(pending22:Sl) w=>
   Ld (.agg [.sl,.sl,.sl,.int .i8]) n4 (fun(x23:Sl×Sl×Sl×Int) w=>
   NewS [.slice x23.1.a x23.1.n x23.1.c,.slice x23.2.1.a x23.2.1.n x23.2.1.c,.slice x23.2.2.1.a x23.2.2.1.n x23.2.2.1.c,.int .i8 x23.2.2.2] 113 1 (fun(l24:Sl) w=>
   LdAt (.one .sl) (p21.add 3) pending22 w/\LdAt (.one .ptr) n3 x20 w/\LdAt (.one .ptr) n3 x19 w/\AppP si193 pending22 l24 (fun(a25:Sl) w=>
   LdAt (.one .ptr) n3 x19 w/\ ∃p26,x19=some p26/\St (p26.add 3) (.slice a25.a a25.n a25.c) (fun w=>K () w) w) w) w) w) w) w) w.drew:=by
 unfold FX FL spc at h
 refine Ld1 h (Ld1 h ⟨_,rfl,Ld1 h (LdN h (NewS_run h fun l24 w h=>⟨LdAt1 h,LdAt1 h,LdAt1 h,?_⟩))⟩)
 refine App1 (k:=4) rfl h .k11 .here rfl (spc_one x) ?_ (by dsimp only;omega) fun r w er ea h=>?_
 ·show(2*(s.pend.n+1)+1024)*80<=_
  omega
 refine⟨LdAt1 h,_,rfl,St1 h rfl fun w h=>k r w er ?_⟩
 have e1:(xs++([x]:List SpC)).flatMap spc=xs.flatMap spc++spc x:=by simp[List.flatMap_append]
 unfold FX FL
 rw[e1]
 exact(((h.t1.tail).t1.tail).t1.tail).pt 8
set_option maxHeartbeats 2000000 in
theorem spec73 {E:EmitI}{f:Addr}{s:FrS}{fkb:ByteArray}{D:Hp}{ss out ps:List SpanM}{xs:List SpC}{x0:ByteArray}{x:SpC}{sp:SpanM}{R w}{K:Unit->WP}(hok:FrOK D s fkb ss out xs ps x0)(hx:SpRel D x sp)(hx0:bcmp x0 sp.lo<=0)(hz:sp.lo.size<2^28/\sp.hi.size<2^28)
  (hnd: ∀y,((covK ss y).map (·.tr)).Nodup) (hkn:(ss.flatMap (·.keys)).length<2^30) (hsn:ss.length<2^15) (h:Sat w (FX f E s fkb D out xs R))
  (k: ∀D' s' fkb' out' xs' ps' x0' w',D.le D'->FrOK D' s' fkb' (ss++[sp]) out' xs' ps' x0'->bcmp x0' sp.lo<=0->Sat w' (FX f E s' fkb' D' out' xs' R)->K () w'):F73 (some f) (x.lo,x.hi,x.ks,0) K w:=by
 have hpn:ps.length<2^15:=by have:=hok.inv.n;omega
 have hon:out.length<=2^15*2^15:=Nat.le_trans hok.inv.on (Nat.mul_le_mul om om)
 unfold F73
 refine NewP_run h fun n3 w h=>NewP_run h fun n4 w h=>?_
 have hfx: ∀{w},Sat w (Arr n4 (spc x)::Arr n3 [.pointer (some f)]::FX f E s fkb D out xs R)->Sat w (FX f E s fkb D out xs R):=fun h=>h.tail.tail
 refine⟨fun _ w=>Sat w (Arr n4 (spc x)::Arr n3 [.pointer (some f)]::FX f E s fkb D out xs R),?_,?_⟩
 rotate_left
 ·unfold FX FL at h
  refine Ld1 h ⟨_,rfl,Ld1 h ?_⟩
  rw[hok.fin]
  exact ifb (fun hh=>nomatch hh) fun _=>Ld1 h (ifne (fun hh=>absurd rfl hh) fun _=>h)
 clear h
 intro _ w h
 refine⟨fun _ w=>Sat w (Arr n4 (spc x)::Arr n3 [.pointer (some f)]::FX f E s fkb D out xs R),?_,?_⟩
 rotate_left
 ·have h':=h
  unfold FX FL spc at h
  refine Ld1 h ⟨_,rfl,Ld1 h ?_⟩
  refine ifn (fun hh=>?_) (fun hh=>h')
  refine Ld1 h ⟨_,rfl,Ld1 h (Ld1 h (Ld1 h ⟨_,rfl,Ld1 h ?_⟩))⟩
  refine callCmp (a:=x.lo) (b:=s.fk) (h.near.rdB .k8 hx.1.1) (rdBuf1 ((h.near).mv 12)) ?_
  exact ifd (fun hh=>absurd hh (not_lt_b.2 (bcmp_trans hok.fk hx0))) fun _=>h'.near
 clear h
 intro _ w h'
 have h:=h'
 unfold FX FL spc at h
 refine Ld1 h ⟨_,rfl,Ld1 h (Ld1 h (Ld1 h ?_))⟩
 refine callCmp (a:=x.lo) (b:=x.hi) (h.near.rdB .k8 hx.1.1) (h.near.rdB .k8 hx.2.1.1) ?_
 refine ifd (fun hge=>?_) (fun hlt=>?_)
 ·exact k D s fkb out xs ps x0 _ (Hp.le_refl _) ⟨hok.rel,hok.pn,hok.dn,hok.fin,hok.fk,hok.inv.skip om⟩ hx0 (hfx h'.near)
 replace hlt:bcmp sp.lo sp.hi<0:=Int.not_le.1 hlt
 have h2: ∀{w},Sat w (Arr n4 (spc x)::Arr n3 [.pointer (some f)]::FX f E s fkb D out xs R)->True:=fun _=>trivial
 refine⟨fun _ w=>Sat w (Arr n4 (spc x)::Arr n3 [.pointer (some f)]::FX f E s fkb D out xs R),?_,h'.near⟩
 clear h h' h2
 intro _ w h
 refine⟨fun _ w=> ∃D' s' fkb' out' xs' ps',D.le D'/\(∀p':Sl,p'.n=s'.pend.n+1->FrOK D' {s' with pend:=p'} fkb' (ss++[sp]) out' (xs'++[x]) (ps'++[sp]) sp.lo)/\s'.pend.n<2^32/\Sat w (Arr n4 (spc x)::Arr n3 [.pointer (some f)]::FX f E s' fkb' D' out' xs' R),?_,?_⟩
 ·clear h
  rintro _ w ⟨D',s',fkb',out',xs',ps',hD,hok',hn,h⟩
  exact pendApp hn h fun p' w' hp h=>k D' _ fkb' out' _ _ sp.lo w' hD (hok' p' hp) (le_refl_b _) h
 have h':=h
 unfold FX FL spc at h
 refine Ld1 h ⟨_,rfl,Ld1 h ?_⟩
 rw[hok.pn]
 refine ifd (fun hpos=>?_) (fun hz0=>?_)
 rotate_left
 ·replace hz0: ¬(0:Int)<(ps.length:Int):=hz0
  have e:ps=[]:=List.length_eq_zero_iff.1 om
  subst e
  have ex:xs=[]:=List.length_eq_zero_iff.1 (by rw[hok.rel.len];rfl)
  subst ex
  refine⟨D,s,fkb,out,[],[],Hp.le_refl _,fun p' hp=>⟨⟨hx,trivial⟩,?_,hok.dn,hok.fin,bcmp_trans hok.fk hx0,(hok.inv.move hx0 hz.1).same rfl hlt hz⟩,by rw[hok.pn];exact Nat.lt_trans hpn om,h'⟩
  rw[hp,hok.pn];rfl
 replace hpos:(0:Int)<(ps.length:Int):=hpos
 refine⟨fun _ w=>bcmp x0 sp.lo<0/\Sat w (Arr n4 (spc x)::Arr n3 [.pointer (some f)]::FX f E s fkb D out xs R),?_,?_⟩
 ·clear h h'
  rintro _ w ⟨hxl,h'⟩
  have h:=h'
  unfold FX FL spc at h
  refine Ld1 h (Ld1 h ?_)
  refine call110 (key2:=x.lo) ?_
  have h3:Sat w (FX f E s fkb D out xs (Arr n4 (spc x)::Arr n3 [.pointer (some f)]::R)):=(((((((((((((h.mv 1).mv 1).mv 12).mv 12).mv 12).mv 12).mv 12).mv 12).mv 12).mv 12).mv 12).mv 12).mv 12)
  refine spec110 (kb:=sp.lo) (ps:=ps) (x0:=x0) hok.rel hok.pn hok.inv.lo hok.inv.sz hok.inv.xz (hok.inv.nd hnd) (Nat.lt_of_le_of_lt hok.inv.sub.length_le hkn) om hx.1.1 hx.1.2 hz.1 hxl om hok.dn h3 ?_
  intro D' fl ys s' w' hD hfl hfn hys hyn hdn hfin h4
  refine⟨D',s',sp.lo,out++fl,ys,ps.filterMap (cutP sp.lo),hD,fun p' hp=>⟨hys.app (show SpsRel D' [x] [sp]from⟨hx.mono hD,trivial⟩),?_,hdn,by show s'.fin=false;rw[hfin];exact hok.fin,le_refl_b _,hok.inv.step hxl hlt hz hfl hfn⟩,?_,?_⟩
  ·rw[hp,hyn,List.length_append];rfl
  ·rw[hyn];have:=List.length_filterMap_le (cutP sp.lo) ps;omega
  ·exact(((((((((((((h4.mv 10).mv 10).mv 10).mv 10).mv 10).mv 10).mv 10).mv 10).mv 10).mv 10).mv 10).mv 12).mv 12)
 ·obtain⟨p,ps',rfl⟩: ∃p ps',ps=p::ps':=by
   cases ps with
   |nil=>simp at hpos
   |cons p ps'=>exact⟨p,ps',rfl⟩
  obtain⟨y,xs',rfl⟩: ∃y xs',xs=y::xs':=by
   cases xs with
   |nil=>exact hok.rel.elim
   |cons y xs'=>exact⟨y,xs',rfl⟩
  have hpl:=(hok.inv.lo p (by simp)).1
  obtain⟨a,ha,hr⟩:=bufRd (h.mv 10) (by simp[spc])
  refine Ld1 h ⟨_,rfl,Ld1 h (Ld1 h ⟨_,rfl,Ld1 h ⟨⟨Int.le_refl _,by rw[hok.pn];exact hpos⟩,a,ha,LdC (hr 0 _ rfl) (Ld1 h ?_)⟩⟩)⟩
  refine callCmp (a:=y.lo) (b:=x.lo) (h.near.rdB .k8 hok.rel.1.1.1) (h.near.rdB .k8 hx.1.1) ?_
  rw[hpl]
  refine ifd (fun hh=>?_) (fun _=>?_)
  ·replace hh:0<bcmp x0 sp.lo:=hh
   omega
  refine ife (fun he=>?_) (fun he=>?_)
  ·have e:sp.lo=x0:=(bcmp_zero he).symm
   refine pendApp (by rw[hok.pn];omega) h'.near fun p' w' hp h=>k D {s with pend:=p'} fkb out _ (_++[sp]) x0 w' (Hp.le_refl _) ⟨hok.rel.app (show SpsRel D [x] [sp]from⟨hx,trivial⟩),?_,hok.dn,hok.fin,hok.fk,hok.inv.same e hlt hz⟩ hx0 h
   show p'.n=_
   rw[hp,hok.pn,List.length_append];rfl
  ·exact⟨by omega,h'.near⟩
theorem spec74 {E:EmitI}{f:Addr}{s:FrS}{fkb:ByteArray}{D:Hp}{ss out ps:List SpanM}{xs:List SpC}{x0:ByteArray}{R w}{K:Unit->WP}(hok:FrOK D s fkb ss out xs ps x0)
  (hnd: ∀y,((covK ss y).map (·.tr)).Nodup) (hkn:(ss.flatMap (·.keys)).length<2^30) (hsn:ss.length<2^15) (h:Sat w (FX f E s fkb D out xs R))
  (k: ∀D' out' w',D.le D'->SpansOK out'->(∀y,(keysOf out' y).Perm (covK ss y))->out'.length<=(ss.length+1)*(ss.length+1)->Sat w' (Own D'::E.C D' out'::R)->K () w'):F74 (some f) K w:=by
 have hpn:ps.length<2^15:=by have:=hok.inv.n;omega
 have hon:out.length<=2^15*2^15:=Nat.le_trans hok.inv.on (Nat.mul_le_mul om om)
 unfold F74
 refine⟨fun _ w=>Sat w (FX f E s fkb D out xs R),?_,?_⟩
 rotate_left
 ·have h':=h
  unfold FX FL at h
  refine⟨_,rfl,Ld1 h ?_⟩
  rw[hok.fin]
  exact ifb (fun hh=>nomatch hh) fun _=>h'
 clear h
 intro _ w h
 unfold FX FL at h
 refine⟨_,rfl,Ld1 h ?_⟩
 have hxl:=hok.rel.len
 have h2:=h.mv 8
 rw[<-flat_all spc xpd xs,hxl,<-hok.pn]at h2
 have hnone:s.pend.a=none->s.pend.n=0/\s.pend.c=0:=fun hh=>by
  obtain⟨g,hg,_⟩:=h2
  unfold Buf at hg
  rw[hh]at hg
  exact⟨hg.1,hg.2.1⟩
 obtain⟨hnc,hka,h3⟩:=bufOpen (k:=4) (p:=f) (f:=fun j=>spc (xs.getD j xpd)) (fun j _=>rfl) (Nat.succ_pos _) h2
 obtain⟨t,_,ht⟩:=max_hi ps x0
 have h4:Sat w (Rws (s.pend.a.getD f) 4 s.pend.n (fun j=>spc (xs.getD j xpd))::FL f E s D out (spareO 4 s.pend::Buf 4 s.done []::Buf 1 s.fk (bytesOf fkb)::R)):=((h3.t1).pt 9).mv 0
 have hin:FlIn x0 t ps:=⟨hok.inv.lo,ht,hok.inv.sz,hok.inv.nd hnd,Nat.lt_of_le_of_lt hok.inv.sub.length_le hkn,by omega⟩
 refine call111 (buf2:=s.pend) (lastKey3:=nl) ?_
 refine spec111 (t:=t) (x0:=x0) (n:=s.pend.n) hok.rel hok.pn.symm hin hok.inv.xz hka hnc (by have:=hok.pn;omega) h4 ?_
 intro D' fl g s' w' hD hfl hfn hg p1 p2 p3 p4 h
 unfold FL at h
 refine⟨_,rfl,St1 h rfl fun w h=>?_⟩
 obtain⟨e1,e2⟩:=hok.inv.fin hfl
 refine k D' (out++fl) w hD e1 e2 (by rw[List.length_append];have:=hok.pn;have:=hok.inv.on;have:=hok.inv.n;have:=sq_le ss.length;omega) ?_
 exact Sat.drop 10 (((((((((((((h.mv 8).mv 8).mv 11).mv 11).mv 11).mv 11).mv 11).mv 11).mv 11).mv 11).mv 11).mv 11))
def rkVal (kind:Nat)(e s v:ByteArray):List Nat:=if kind=19 then bl e else if kind=20 then vb e++vb s else vb e++(vb s++vb v)
def rkSuf (kind:Nat)(s:ByteArray):ByteArray:=if kind=19 then .empty else s
def rkV (kind:Nat)(v:ByteArray):ByteArray:=if kind=21 then v else .empty
theorem kind103 {sl:Sl}{tr kind:Nat}{L w}{K:Int->WP}(hk:tr%256=kind)(h64:tr<2^64)(h:Sat w L)(k: ∀w',Sat w' L->K (kind:Int) w'):CallF Tryz.prog 103 [.agg #[.slice sl.a sl.n sl.c,.int .u64 (tr:Int)]] [(.one (.int .u8))] K w:=by
 refine call103 (k1:=(sl,(tr:Int))) ?_
 unfold F103
 refine NewP_run h fun n2 w h=>Ld1 h (call139 ?_)
 unfold F139
 have:IntKind.u8.wrap (IntKind.u64.wrap ((BitVec.ofInt IntKind.u64.bits (tr:Int)&&&BitVec.ofInt IntKind.u64.bits (255:Int)).toNat:Int))=(kind:Int):=by
  have e:(BitVec.ofInt IntKind.u64.bits (tr:Int)&&&BitVec.ofInt IntKind.u64.bits (255:Int)).toNat=tr%256:=by
   show(BitVec.ofInt 64 (tr:Int)&&&BitVec.ofInt 64 ((255:Nat):Int)).toNat=_
   rw[BitVec.toNat_and,BitVec.ofInt_natCast,BitVec.ofInt_natCast,BitVec.toNat_ofNat,BitVec.toNat_ofNat,Nat.mod_eq_of_lt (a:=tr) h64]
   exact Nat.and_two_pow_sub_one_eq_mod tr 8
  rw[e,wu64n om,hk,wu8 om om]
 dsimp only
 rw[this]
 exact k w h.tail
theorem BytesAt_nil {D}:BytesAt D ⟨none,0,0⟩ .empty:=⟨rfl,rfl⟩
def App70 (kd:Sl)(C0:Chunk)(C1:KC->Sl->Chunk):Prop:= ∀(x:KC) (l:Addr) (L:List Chunk) (w w1:World) (K:Sl->WP) [Near w w1],Sat w (Arr l (kcells x)::C0::L)->(∀r w',Sat w' (C1 x r::L)->K r w')->AppP si109 kd ⟨some l,1,1⟩ K w1
theorem spec70g {D}{kd:Sl}{C0:Chunk}{C1:KC->Sl->Chunk}{uk v:Sl}{kind tr:Nat}{e sb xb:ByteArray}{R w}{K:(Sl×Sl×Sl×Int)×IV->WP}(happ:App70 kd C0 C1)(hkind:kind=19\/kind=20\/kind=21)(htr:tr%256=kind)(h64:tr<2^64)(he:e.size<2^28)(hs:sb.size<2^28)(hx:xb.size<2^28)(hv:Cont D v (rkVal kind e sb xb))(hvn:v.n<2^40)(h:Sat w (Own D::C0::R))
  (k: ∀(x:KC) y r w',x.1=(tr:Int)->BytesAt D x.2.1 (rkSuf kind sb)->BytesAt D x.2.2 (rkV kind xb)->Cont D y (bl e)->Sat w' (Own D::C1 x r::R)->K ((uk,y,r,0),.nil) w'):F70 (uk,(tr:Int)) v kd K w:=by
 unfold F70
 refine NewP_run h fun n4 w h=>NewP_run h fun n5 w h=>NewP_run h fun n6 w h=>?_
 refine Ld1 h (St1 h rfl fun w h=>LdN h ?_)
 refine kind103 htr h64 h fun w h=>?_
 have fin: ∀(x:KC) (y r0:Sl) w,x.1=(tr:Int)->BytesAt D x.2.1 (rkSuf kind sb)->BytesAt D x.2.2 (rkV kind xb)->Cont D y (bl e)->Sat w (Arr n6 [.slice uk.a uk.n uk.c,.slice y.a y.n y.c,.slice r0.a r0.n r0.c,.int .i8 (0:Int)]::Arr n5 [.slice none 0 0,.slice none 0 0,.slice none 0 0,.int .i8 (0:Int)]::Arr n4 [.slice uk.a uk.n uk.c,.int .u64 (tr:Int)]::Own D::C1 x r0::R)->
   Ld (.agg [.sl,.sl,.sl,.int .i8]) n6 (fun(x16:Sl×Sl×Sl×Int) w=>StL n5 [.slice x16.1.a x16.1.n x16.1.c,.slice x16.2.1.a x16.2.1.n x16.2.1.c,.slice x16.2.2.1.a x16.2.2.1.n x16.2.2.1.c,.int .i8 x16.2.2.2] (fun w=>Ld (.agg [.sl,.sl,.sl,.int .i8]) n5 (fun(r17:Sl×Sl×Sl×Int) w=>decI .nilIface (fun i18=>K ((r17.1,r17.2.1,r17.2.2.1,r17.2.2.2),i18) w)) w) w) w:=by
  intro x y r0 w h1 h2 h3 h4 h
  refine LdN h (StL_of (St1 h rfl fun w h=>St1 h rfl fun w h=>St1 h rfl fun w h=>St1 h rfl fun w h=>?_))
  simp only[StC]
  refine LdN h ?_
  exact decI_nil (k x y r0 w h1 h2 h3 h4 h.tail.tail.tail)
 rcases hkind with rfl|rfl|rfl
 ·refine call102 (kind1:=((19:Nat):Int)) (data2:=v) ?_
  refine spec102d ?_
  have hv':Cont D v (bl e):=hv
  dsimp only
  refine St1 h rfl fun w h=>ifn (fun hh=>nomatch hh) fun _=>St1 h rfl fun w h=>?_
  refine⟨fun _ w=> ∃(x:KC) (r0:Sl),x.1=(tr:Int)/\BytesAt D x.2.1 .empty/\BytesAt D x.2.2 .empty/\Sat w (Arr n6 [.slice uk.a uk.n uk.c,.slice v.a v.n v.c,.slice r0.a r0.n r0.c,.int .i8 (0:Int)]::Arr n5 [.slice none 0 0,.slice none 0 0,.slice none 0 0,.int .i8 (0:Int)]::Arr n4 [.slice uk.a uk.n uk.c,.int .u64 (tr:Int)]::Own D::C1 x r0::R),?_,?_⟩
  ·rintro _ w ⟨x,r0,h1,h2,h3,h⟩
   exact fin x v r0 w h1 h2 h3 hv' h
  ·refine LdN h ?_
   refine kind103 htr h64 h fun w h=>?_
   refine ife (fun hh=>absurd hh (by decide)) fun _=>ife (fun hh=>absurd hh (by decide)) fun _=>ife (fun _=>?_) fun hh=>absurd rfl hh
   refine ifd (fun hh=>absurd hh (by decide)) fun _=>Ld1 h (Ld1 h (NewS_run h fun l w h=>?_))
   refine happ ((tr:Int),nl,nl) l _ _ _ _ ((h.mv 5).mv 1) fun r0 w h=>St1 h rfl fun w h=>?_
   exact⟨((tr:Int),⟨none,0,0⟩,⟨none,0,0⟩),r0,rfl,BytesAt_nil,BytesAt_nil,h.pt 4⟩
 ·have hv':Cont D v (vb e++vb sb):=hv
  have hsl:=vb_len sb
  have hvp:=vi_pos sb.size
  refine call102 (kind1:=((20:Nat):Int)) (data2:=v) ?_
  refine spec102 (.inl rfl) he om hv' hvn h .k3 fun y r w c1 c2 h=>?_
  have hrn:r.n<2^40:=by
   have h1:=c2.n;have h2:=hv'.n
   rw[List.length_append]at h2
   omega
  dsimp only
  refine St1 h rfl fun w h=>ifn (fun hh=>nomatch hh) fun _=>St1 h rfl fun w h=>?_
  refine⟨fun _ w=> ∃(x:KC) (r0:Sl),x.1=(tr:Int)/\BytesAt D x.2.1 sb/\BytesAt D x.2.2 .empty/\Sat w (Arr n6 [.slice uk.a uk.n uk.c,.slice y.a y.n y.c,.slice r0.a r0.n r0.c,.int .i8 (0:Int)]::Arr n5 [.slice none 0 0,.slice none 0 0,.slice none 0 0,.int .i8 (0:Int)]::Arr n4 [.slice uk.a uk.n uk.c,.int .u64 (tr:Int)]::Own D::C1 x r0::R),?_,?_⟩
  ·rintro _ w ⟨x,r0,h1,h2,h3,h⟩
   exact fin x y r0 w h1 h2 h3 c1 h
  ·refine LdN h ?_
   refine kind103 htr h64 h fun w h=>?_
   refine ife (fun hh=>absurd hh (by decide)) fun _=>ife (fun _=>?_) fun hh=>absurd rfl hh
   refine⟨fun m (z:Sl) w=>z=r/\m=1/\Sat w (Arr n6 [.slice uk.a uk.n uk.c,.slice y.a y.n y.c,.slice kd.a kd.n kd.c,.int .i8 (0:Int)]::Arr n5 [.slice none 0 0,.slice none 0 0,.slice none 0 0,.int .i8 (0:Int)]::Arr n4 [.slice uk.a uk.n uk.c,.int .u64 (tr:Int)]::Own D::C0::R)\/
    z.n=0/\m=0/\ ∃(x:KC) (r0:Sl),x.1=(tr:Int)/\BytesAt D x.2.1 sb/\BytesAt D x.2.2 .empty/\Sat w (Arr n6 [.slice uk.a uk.n uk.c,.slice y.a y.n y.c,.slice r0.a r0.n r0.c,.int .i8 (0:Int)]::Arr n5 [.slice none 0 0,.slice none 0 0,.slice none 0 0,.int .i8 (0:Int)]::Arr n4 [.slice uk.a uk.n uk.c,.int .u64 (tr:Int)]::Own D::C1 x r0::R),⟨_,.inl ⟨rfl,rfl,h⟩⟩,?_⟩
   clear h
   rintro m z w (⟨rfl,hm,h⟩|⟨hz,hm,x,hx⟩)
   ·have hpos:0<z.n:=by rw[c2.n];omega
    refine ifd (fun _=>?_) fun hh=>absurd om hh
    have c2':Cont D z (vb sb++[]):=by rw[List.append_nil];exact c2
    refine call106 ?_
    refine spec106 hs c2' hrn h .k3 fun y2 r2' w c3 c4 h=>?_
    refine ifn (fun hh=>nomatch hh) fun _=>Ld1 h (Ld1 h (NewS_run h fun l w h=>?_))
    refine happ ((tr:Int),y2,nl) l _ _ _ _ ((h.mv 5).mv 1) fun r0 w h=>St1 h rfl fun w h=>?_
    exact⟨0,by omega,.inr ⟨c4.n,rfl,((tr:Int),y2,⟨none,0,0⟩),r0,rfl,c3.bytes,BytesAt_nil,h.pt 4⟩⟩
   ·exact ifd (fun hh=>absurd hh om) fun _=>⟨x,hx⟩
 ·have hv':Cont D v (vb e++(vb sb++vb xb)):=hv
  have hsl:=vb_len sb
  have hvp:=vi_pos sb.size
  refine call102 (kind1:=((21:Nat):Int)) (data2:=v) ?_
  refine spec102 (.inr rfl) he (by rw[List.length_append];omega) hv' hvn h .k3 fun y r w c1 c2 h=>?_
  have hrn:r.n<2^40:=by
   have h1:=c2.n;have h2:=hv'.n
   rw[List.length_append]at h2
   omega
  dsimp only
  refine St1 h rfl fun w h=>ifn (fun hh=>nomatch hh) fun _=>St1 h rfl fun w h=>?_
  refine⟨fun _ w=> ∃(x:KC) (r0:Sl),x.1=(tr:Int)/\BytesAt D x.2.1 sb/\BytesAt D x.2.2 xb/\Sat w (Arr n6 [.slice uk.a uk.n uk.c,.slice y.a y.n y.c,.slice r0.a r0.n r0.c,.int .i8 (0:Int)]::Arr n5 [.slice none 0 0,.slice none 0 0,.slice none 0 0,.int .i8 (0:Int)]::Arr n4 [.slice uk.a uk.n uk.c,.int .u64 (tr:Int)]::Own D::C1 x r0::R),?_,?_⟩
  ·rintro _ w ⟨x,r0,h1,h2,h3,h⟩
   exact fin x y r0 w h1 h2 h3 c1 h
  ·refine LdN h ?_
   refine kind103 htr h64 h fun w h=>?_
   refine ife (fun _=>?_) fun hh=>absurd rfl hh
   refine⟨fun m (z:Sl) w=>z=r/\m=1/\Sat w (Arr n6 [.slice uk.a uk.n uk.c,.slice y.a y.n y.c,.slice kd.a kd.n kd.c,.int .i8 (0:Int)]::Arr n5 [.slice none 0 0,.slice none 0 0,.slice none 0 0,.int .i8 (0:Int)]::Arr n4 [.slice uk.a uk.n uk.c,.int .u64 (tr:Int)]::Own D::C0::R)\/
    z.n=0/\m=0/\ ∃(x:KC) (r0:Sl),x.1=(tr:Int)/\BytesAt D x.2.1 sb/\BytesAt D x.2.2 xb/\Sat w (Arr n6 [.slice uk.a uk.n uk.c,.slice y.a y.n y.c,.slice r0.a r0.n r0.c,.int .i8 (0:Int)]::Arr n5 [.slice none 0 0,.slice none 0 0,.slice none 0 0,.int .i8 (0:Int)]::Arr n4 [.slice uk.a uk.n uk.c,.int .u64 (tr:Int)]::Own D::C1 x r0::R),⟨_,.inl ⟨rfl,rfl,h⟩⟩,?_⟩
   clear h
   rintro m z w (⟨rfl,hm,h⟩|⟨hz,hm,x,hx⟩)
   ·have hpos:0<z.n:=by rw[c2.n,List.length_append];omega
    refine ifd (fun _=>?_) fun hh=>absurd om hh
    have c2':Cont D z (vb sb++(vb xb++[])):=by rw[List.append_nil];exact c2
    refine NewP_run h fun n23 w h=>?_
    refine call105 ?_
    refine spec105 hs hx c2' hrn h .k4 fun y2 y3 r2' w c3 c3' c4 h=>?_
    refine StL_of (St1 h rfl fun w h=>St1 h rfl fun w h=>?_)
    simp only[StC]
    refine ifn (fun hh=>nomatch hh) fun _=>Ld1 h (Ld1 h (Ld1 h (Ld1 h (NewS_run h fun l w h=>?_))))
    refine happ ((tr:Int),y2,y3) l _ _ _ _ (((h.mv 6).mv 1)) fun r0 w h=>St1 h rfl fun w h=>?_
    exact⟨0,by omega,.inr ⟨c4.n,rfl,((tr:Int),y2,y3),r0,rfl,c3.bytes,c3'.bytes,(h.mv 1).tail.pt 4⟩⟩
   ·exact ifd (fun hh=>absurd hh om) fun _=>⟨x,hx⟩
theorem spec70 {D}{kp:Addr}{row:List Value}{kc:Nat}{uk v:Sl}{kind tr:Nat}{e sb xb:ByteArray}{R w}{K:(Sl×Sl×Sl×Int)×IV->WP}(hkind:kind=19\/kind=20\/kind=21)(htr:tr%256=kind)(h64:tr<2^64)(hrow:row.length=3)(hkc:1<=kc)(he:e.size<2^28)(hs:sb.size<2^28)(hx:xb.size<2^28)(hv:Cont D v (rkVal kind e sb xb))(hvn:v.n<2^40)(h:Sat w (Own D::Arr kp row::R))
  (k: ∀(x:KC) y w',x.1=(tr:Int)->BytesAt D x.2.1 (rkSuf kind sb)->BytesAt D x.2.2 (rkV kind xb)->Cont D y (bl e)->Sat w' (Own D::Arr kp (kcells x)::R)->K ((uk,y,⟨some kp,1,kc⟩,0),.nil) w'):F70 (uk,(tr:Int)) v ⟨some kp,0,kc⟩ K w:=by
 obtain⟨r0,r1,r2,rfl⟩: ∃r0 r1 r2,row=[r0,r1,r2]:=by
  match row,hrow with
  | [a,b,c],_=>exact⟨a,b,c,rfl⟩
 refine spec70g (C1:=fun x r g=>r=⟨some kp,1,kc⟩/\Arr kp (kcells x) g) (fun x l L w w1 K _ h k=>?_) hkind htr h64 he hs hx hv hvn h fun x y r w h1 h2 h3 h4 h=>?_
 ·refine AppP_inD (a:=kp) (new:=kcells x) rfl (by dsimp only;omega) ⟨rfl,h.near.rdL .here⟩ ?_
  show StL kp _ _ _
  unfold kcells at h|-
  refine StL_of (St1 h rfl fun w h=>St1 h rfl fun w h=>St1 h rfl fun w h=>?_)
  simp only[StC]
  exact k _ w (h.tail.cons fun _ hg=>⟨rfl,hg⟩)
 ·obtain⟨g,⟨e,_⟩,_⟩:=h.mv 1
  subst e
  exact k x y w h1 h2 h3 h4 (((h.mv 1).cons fun _ hg=>hg.2).mv 1)
theorem app70nil :App70 ⟨none,0,0⟩ (Buf 3 ⟨none,0,0⟩ []) (fun x r g=>r.n=1/\Buf 3 r (kcells x) g):=fun x l L w w1 K _ h k=>by
 refine App1 (k:=3) (d:=⟨none,0,0⟩) (old:=[]) (new:=kcells x) rfl h .k1 .here rfl (ones_of rfl) ?_ (by dsimp only;omega) fun r w er ea h=>k r w ((h.mv 1).tail.cons fun _ hg=>⟨er,hg⟩)
 show(2*(0+1)+1024)*56<=_
 omega
def opVal (o:OpM):Option (List Nat):=
 if o.kind=0\/o.kind=7 then none
 else if o.kind=15\/o.kind=19 then some (bl o.end_)
 else if o.kind=20 then some (vb o.end_++vb o.suf)
 else if o.kind=21 then some (vb o.end_++(vb o.suf++vb o.val))
 else if o.kind=23 then some (vi (o.size+o.key.size))
 else some (bl o.val)
theorem recOp_val (o:OpM):recOp o=match opVal o with|none=>recK o.kind (bl o.key)|some v=>recKV o.kind (bl o.key) v:=by
 unfold recOp opVal
 by_cases h1:o.kind=0\/o.kind=7
 ·rw[if_pos h1,if_pos h1]
 rw[if_neg h1,if_neg h1]
 by_cases h2:o.kind=15\/o.kind=19
 ·rw[if_pos h2,if_pos h2]
 rw[if_neg h2,if_neg h2]
 by_cases h3:o.kind=20
 ·rw[if_pos h3,if_pos h3]
 rw[if_neg h3,if_neg h3]
 by_cases h4:o.kind=21
 ·rw[if_pos h4,if_pos h4]
 rw[if_neg h4,if_neg h4]
 by_cases h5:o.kind=23
 ·rw[if_pos h5,if_pos h5]
 rw[if_neg h5,if_neg h5]
theorem opVal_len {o:OpM}(h:OpOK o){v:List Nat}(e:opVal o=some v):v.length<2^23:=by
 obtain⟨z1,z2,z3,z4,z5,z6⟩:=h
 have a2:=vi_len4 (n:=o.val.size) om
 have a3:=vi_len4 (n:=o.end_.size) om
 have a4:=vi_len4 (n:=o.suf.size) om
 have a5:=vi_len5 (n:=o.size+o.key.size) om
 have b1:=vb_len o.end_
 have b2:=vb_len o.suf
 have b3:=vb_len o.val
 have e2:=bl_len o.val
 have e3:=bl_len o.end_
 unfold opVal at e
 repeat' split at e
 all_goals first
  |cases e;done
  |(injection e with e;subst e;(try simp only[List.length_append]);omega)
theorem opVal_none {o:OpM}(h:OpOK o):opVal o=none↔(o.kind=0\/o.kind=7):=by
 unfold opVal
 constructor
 ·intro e
  split at e
  ·assumption
  ·repeat' split at e
   all_goals cases e
 ·intro e;rw[if_pos e]
theorem spec87 {D}{p:Addr}{x:Sl}{o:OpM}{rest:List Nat}{R w}{K:Int×Sl×Sl×Bool×IV->WP}(ho:OpOK o)(hc:Cont D x (recOp o++rest))(hn:x.n<2^32)(h:Sat w (Arr p [.slice x.a x.n x.c]::Own D::R))
  (k: ∀uk v r w',Cont D uk (bl o.key)->uk.c=x.c-1-(vi o.key.size).length->Cont D r rest->r.c=x.c-(recOp o).length->Sat w' (Arr p [.slice r.a r.n r.c]::Own D::R)->K ((o.kind:Int),uk,v,true,.nil) w'):F87 (some p) K w:=by
 have hval:=recOp_val o
 have hnone:=opVal_none ho
 have hvl:=fun v=>opVal_len ho (v:=v)
 have hkz:=ho.key
 have hkind:=ho.kind
 have hl:=hc.n
 rw[List.length_append]at hl
 obtain⟨tl,htl⟩: ∃tl,recOp o=o.kind::(vi (bl o.key).length++(bl o.key++tl)):=by
  rw[hval]
  cases opVal o with
  |none=>exact⟨[],by unfold recK;rw[List.append_nil]⟩
  |some v=>exact⟨_,rfl⟩
 rw[bl_len]at htl
 have hrl:(recOp o).length=1+(vi o.key.size).length+o.key.size+tl.length:=by rw[htl,List.length_cons,List.length_append,List.length_append,bl_len];omega
 unfold F87
 refine⟨_,rfl,Ld1 h ?_⟩
 refine ife (fun hh=>?_) fun _=>⟨_,rfl,Ld1 h ⟨⟨by omega,by dsimp only;omega⟩,?_⟩⟩
 ·dsimp only at hh;omega
 have hb0:(recOp o++rest)[0]? =some o.kind:=by rw[htl];rfl
 refine hc.byte h .k1 hb0 ?_
 have hk23:o.kind<=23:=by unfold OpKind at hkind;omega
 refine ifd (fun hh=>absurd hh om) fun _=>⟨_,rfl,Ld1 h ⟨⟨by omega,by dsimp only;omega⟩,?_⟩⟩
 have c1:=hc.tail (p:=1) om
 rw[htl,List.cons_append,List.drop_one,List.tail_cons,List.append_assoc,List.append_assoc]at c1
 refine call130 (data1:=⟨(sub x.a 1 1 x.n x.c).a,x.n-1,x.c-1⟩) ?_
 refine spec130 om (bl_len o.key) c1 (by dsimp only;omega) h .k1 fun r uk w c2 hr c3 huk h=>?_
 dsimp only at hr huk|-
 refine⟨_,rfl,St1 h rfl fun w h=>ifn (fun hh=>nomatch hh) fun _=>?_⟩
 refine⟨fun b w=>b= !decide (o.kind=0\/o.kind=7)/\Sat w (Arr p [.slice r.a r.n r.c]::Own D::R),?_,?_⟩
 ·clear h
  rintro b w ⟨rfl,h⟩
  cases hv:opVal o with
  | none =>
   have hk0:=hnone.1 hv
   rw[hv]at hval
   refine ifb (fun hh=>?_) fun _=>decI_nil ?_
   ·simp[hk0]at hh
   ·have htl0:tl=[]:=by
     have h1:=congrArg List.length hval
     dsimp only at h1
     rw[recK_len,bl_len]at h1
     exact List.length_eq_zero_iff.1 om
    subst htl0
    refine k uk _ r w c3 huk c2 ?_ h
    rw[hr,hrl,List.length_nil];omega
  | some v =>
   have hk0: ¬(o.kind=0\/o.kind=7):=fun hh=>by rw[hnone.2 hh]at hv;cases hv
   rw[hv]at hval
   have hvlen:=hvl v hv
   have htl2:tl=vi v.length++v:=by
    have:o.kind::(vi (bl o.key).length++(bl o.key++tl))=o.kind::(vi (bl o.key).length++(bl o.key++(vi v.length++v))):=by
     rw[bl_len,<-htl,hval];unfold recKV;rw[bl_len]
    injection this with _ this
    exact List.append_cancel_left (List.append_cancel_left this)
   subst htl2
   refine ifb (fun _=>?_) fun hh=>?_
   ·refine⟨_,rfl,Ld1 h ?_⟩
    rw[List.append_assoc]at c2
    refine call130 (data1:=r) ?_
    refine spec130 om rfl c2 (by rw[c2.n];simp only[List.length_append]at hrl|-;omega) h .k1 fun r2 v2 w c4 hr2 c5 hv2 h=>?_
    dsimp only
    refine⟨_,rfl,St1 h rfl fun w h=>ifn (fun hh=>nomatch hh) fun _=>decI_nil ?_⟩
    refine k uk _ r2 w c3 huk c4 ?_ h
    rw[hr2,hr,hrl,List.length_append];omega
   ·simp[hk0]at hh
 ·unfold OpKind at hkind
  rcases hkind with hk|hk|hk|hk|hk|hk|hk|hk|hk<;>rw[hk]<;>repeat' first
   |exact⟨rfl,h⟩
   |refine ife (fun _=>?_) fun hh=>absurd rfl hh
   |refine ife (fun hh=>absurd hh (by decide)) fun _=>?_
theorem BtSat.abs {D:Hp}{b:Addr}{bs:List Nat}{cnt:Nat}{R w}(hb:bs≠ [])(h:BtSat b bs cnt (Own D::R) w): ∃D' s,D.le D'/\Cont D' s.data bs/\s.cnt=cnt/\Sat w (Own D'::Arr b (btc s)::R):=by
 obtain⟨s,hs,hc,h⟩:=h
 have h12:s.data.n=bs.length/\12<=bs.length:=by
  rcases hs with h|h
  ·exact absurd h.2 hb
  ·exact h
 have h2:Sat w (Own D::Buf 1 s.data (nb bs)::Arr b (btc s)::R):=(h.mv 1).mv 2
 have hnc:s.data.n<=s.data.c:=by
  obtain⟨g,hg,_⟩:=h.mv 1
  unfold Buf at hg
  cases ha:s.data.a with
  |none=>rw[ha]at hg;rw[hg.1];exact Nat.zero_le _
  |some a=>
   rw[ha]at hg
   obtain⟨h1,sp,h2,_⟩:=hg
   omega
 obtain⟨G,l1,l2,h3⟩:=bufAbs h2
 refine⟨G,s,l1,⟨h12.1,hnc,?_,fun j y e=>?_⟩,hc,h3⟩
 ·cases hb0:bs[0]? with
  |none=>rw[List.getElem?_eq_none_iff]at hb0;omega
  |some y=>
   obtain⟨a,ha,_⟩:=l2 0 (.int .u8 (y:Int)) (by unfold nb;rw[List.getElem?_map,hb0];rfl)
   rw[ha];rfl
 ·exact l2 j (.int .u8 (y:Int)) (by unfold nb;rw[List.getElem?_map,e];rfl)
theorem spec85 {b:Addr}{s:BtS}{L R w}{K:Int->WP}(hc:s.cnt<2^32)(h:Sat w L)(t:Take L (Arr b (btc s)) R)(k:Sat w L->K (s.cnt:Int) w):F85 (some b) K w:=by
 have hcell:w.cell? ((b.add 0).add 6)=some (.int .u64 (s.cnt:Int)):=(h.rdL t) 6 _ rfl
 unfold F85
 refine⟨_,rfl,LdC hcell (ifd (fun hh=>absurd hh om) fun _=>⟨_,rfl,LdC hcell ?_⟩)⟩
 rw[wu32n hc]
 exact k h
theorem spec95 {D}{x:Sl}{rest:List Nat}{L R w}{K:Int->WP}(hc:Cont D x ([0,0,0,0,0,0,0,0]++rest))(h:Sat w L)(t:Take L (Own D) R)(k: ∀w',Sat w' L->K 0 w'):F95 () x K w:=by
 have hn:=hc.n
 rw[List.length_append]at hn
 simp only[List.length_cons,List.length_nil]at hn
 unfold F95
 refine NewP_run h fun n3 w h=>?_
 have t':Take (Arr n3 []::L) (Own D) (Arr n3 []::R):=.there t
 refine⟨⟨by omega,by omega⟩,hc.byte h t' (j:=7) rfl ?_⟩
 refine⟨⟨by omega,by omega⟩,hc.byte h.near t' (j:=0) rfl ?_⟩
 refine⟨⟨by omega,by omega⟩,hc.byte h.near t' (j:=1) rfl ?_⟩
 refine⟨by omega,⟨by omega,by omega⟩,hc.byte h.near t' (j:=2) rfl ?_⟩
 refine⟨by omega,⟨by omega,by omega⟩,hc.byte h.near t' (j:=3) rfl ?_⟩
 refine⟨by omega,⟨by omega,by omega⟩,hc.byte h.near t' (j:=4) rfl ?_⟩
 refine⟨by omega,⟨by omega,by omega⟩,hc.byte h.near t' (j:=5) rfl ?_⟩
 refine⟨by omega,⟨by omega,by omega⟩,hc.byte h.near t' (j:=6) rfl ?_⟩
 refine⟨by omega,⟨by omega,by omega⟩,hc.byte h.near t' (j:=7) rfl ?_⟩
 refine⟨by omega,?_⟩
 exact k _ h.near.tail
theorem Cont.take {D}{x:Sl}{l:List Nat}{q:Nat}(h:Cont D x l)(hq:q<=x.n):Cont D ⟨x.a,q,x.c⟩ (l.take q):=by
 have h1:=h.n
 have h2:=h.nc
 refine⟨by rw[List.length_take];dsimp only;omega,by dsimp only;omega,h.sm,fun j y e=>?_⟩
 rw[List.getElem?_take]at e
 split at e
 ·exact h.get j y e
 ·cases e
theorem spec86 {D}{b:Addr}{s:BtS}{rest:List Nat}{L R R' w}{K:Int->WP}(hc:Cont D s.data (z12++rest))(h:Sat w L)(t:Take L (Own D) R)(t2:Take L (Arr b (btc s)) R')(k: ∀w',Sat w' L->K 0 w'):F86 (some b) K w:=by
 have hn:=hc.n
 rw[List.length_append]at hn
 have h12:z12.length=12:=rfl
 have hcell: ∀{w},Sat w L->w.cell? ((b.add 0).add 0)=some (.slice s.data.a s.data.n s.data.c):=fun h=>(h.rdL t2) 0 _ rfl
 unfold F86
 refine⟨fun _ w=>Sat w L,?_,?_⟩
 ·clear h
  intro _ w h
  refine⟨(),fun j v e=>by simp[encs]at e,?_⟩
  refine call128 ?_
  unfold F128
  refine⟨_,rfl,LdC (hcell h.near) ⟨⟨by omega,by have:=hc.nc;dsimp only;omega⟩,?_⟩⟩
  refine⟨fun j v e=>by simp[encs]at e,?_⟩
  have c8:=hc.take (q:=8) om
  refine call95 (a1:=()) (b2:=⟨s.data.a,8,s.data.c⟩) ?_
  refine spec95 (rest:=[]) ?_ h.near t k
  have e:(z12++rest).take 8=[0,0,0,0,0,0,0,0]++[]:=rfl
  rw[e]at c8
  exact c8
 ·refine⟨_,rfl,LdC (hcell h) (ife (fun hh=>?_) fun _=>h)⟩
  dsimp only at hh
  omega
structure EntM where
 i:Nat
 off:Nat
 op:OpM
def EntM.ks (e:EntM):Nat:=e.off+1+(vi e.op.key.size).length
def EntM.ke (e:EntM):Nat:=e.ks+e.op.key.size
def ec (e:EntM):List Value:=[.int .u32 (e.off:Int),.int .u32 (e.i:Int),.int .u32 (e.ks:Int),.int .u32 (e.ke:Int)]
def ents :Nat->Nat->List OpM->List EntM
 |_,_,[]=>[]
 |i,off,o::l=>⟨i,off,o⟩::ents (i+1) (off+(recOp o).length) l
theorem ec_one (e:EntM): ∀v∈ec e,v.oneCell'=true:=by
 intro v hv
 simp only[ec,List.mem_cons,List.not_mem_nil,or_false]at hv
 rcases hv with rfl|rfl|rfl|rfl<;>rfl
structure EntOK (bs:List Nat)(e:EntM):Prop where
 op:OpOK e.op
 at_: ∃rest,bs.drop e.off=recOp e.op++rest
 off:e.off+(recOp e.op).length<=bs.length
 i:e.i<2^32
theorem recOp_key (o:OpM): ∃tl,recOp o=o.kind::(vi o.key.size++(bl o.key++tl)):=by
 rw[recOp_val]
 cases opVal o with
 |none=>exact⟨[],by unfold recK;rw[bl_len,List.append_nil]⟩
 |some v=>exact⟨_,by unfold recKV;rw[bl_len]⟩
theorem EntOK.ke {bs:List Nat}{e:EntM}(h:EntOK bs e):e.ke<=bs.length/\e.off<bs.length:=by
 obtain⟨tl,ht⟩:=recOp_key e.op
 have h1:=h.off
 rw[ht,List.length_cons,List.length_append,List.length_append,bl_len]at h1
 unfold EntM.ke EntM.ks
 omega
theorem EntOK.key {bs:List Nat}{e:EntM}(h:EntOK bs e):(bs.drop e.ks).take (e.ke-e.ks)=bl e.op.key:=by
 obtain⟨rest,hr⟩:=h.at_
 obtain⟨tl,ht⟩:=recOp_key e.op
 have e1:bs.drop e.ks=bl e.op.key++(tl++rest):=by
  have:e.ks=e.off+(e.op.kind::vi e.op.key.size).length:=by unfold EntM.ks;rw[List.length_cons];omega
  rw[this,<-List.drop_drop,hr,ht,<-List.cons_append,List.append_assoc,List.drop_left' rfl,List.append_assoc]
 rw[e1]
 exact List.take_left' (by rw[bl_len];unfold EntM.ke;omega)
theorem Cont.keyAt {D}{x:Sl}{bs:List Nat}{e:EntM}(hc:Cont D x bs)(h:EntOK bs e):Cont D ⟨(Go.Tr.sub x.a 1 e.ks e.ke x.c).a,e.ke-e.ks,x.c-e.ks⟩ (bl e.op.key):=by
 have h1:=hc.sub (p:=e.ks) (q:=e.ke) (by unfold EntM.ke;omega) (by rw[hc.n];exact h.ke.1)
 rwa[h.key]at h1
theorem ents_ok {bs:List Nat}: ∀{l:List OpM} {i off:Nat} {rest:List Nat},(∀o∈l,OpOK o)->bs.drop off=l.flatMap recOp++rest->off+(l.flatMap recOp).length<=bs.length->i+l.length<2^32-> ∀e∈ents i off l,EntOK bs e
 | [],_,_,_,_,_,_,_,e,he=>by simp[ents]at he
 | o :: l, i, off, rest, ho, hb, hl, hi, e, he => by
  rw[List.flatMap_cons,List.append_assoc]at hb
  rw[List.flatMap_cons,List.length_append]at hl
  rw[List.length_cons]at hi
  rcases List.mem_cons.1 he with rfl|he
  ·exact⟨ho o (by simp),⟨_,hb⟩,by dsimp only;omega,by dsimp only;omega⟩
  ·refine ents_ok (rest:=rest) (fun x hx=>ho x (by simp[hx])) ?_ om om e he
   rw[<-List.drop_drop,hb,List.drop_left' rfl]
theorem ents_op : ∀(l:List OpM) (i off:Nat),(ents i off l).map (·.op)=l
 | [],_,_=>rfl
 |o::l,i,off=>by rw[ents,List.map_cons,ents_op l]
theorem ents_snoc : ∀(l:List OpM) (o:OpM) (i off:Nat),ents i off (l++[o])=ents i off l++[⟨i+l.length,off+(l.flatMap recOp).length,o⟩]
 | [],o,i,off=>rfl
 |x::l,o,i,off=>by
  rw[List.cons_append,ents,ents,ents_snoc l,List.cons_append,List.flatMap_cons,List.length_append,List.length_cons]
  congr 4<;>omega
theorem m76Len :MethAt Tryz.prog 76 "Len" 188:=by intro v w;kernel_rfl
theorem m76Less :MethAt Tryz.prog 76 "Less" 189:=by intro v w;kernel_rfl
theorem m76Swap :MethAt Tryz.prog 76 "Swap" 190:=by intro v w;kernel_rfl
def entLt (x y:EntM):Bool:=decide (bcmp x.op.key y.op.key<0)||(decide (bcmp x.op.key y.op.key=0)&&decide (y.off<x.off))
theorem entSWO_aux (x y:EntM):entLt x y=true↔bcmp x.op.key y.op.key<0\/(bcmp x.op.key y.op.key=0/\y.off<x.off):=by
 unfold entLt;simp
def fbc (fmt:FV)(data offs tombs rks:Sl):List Value:=[cmpV,fmt.enc,.slice data.a data.n data.c,.int .u64 (0:Int),.slice offs.a offs.n offs.c,.slice tombs.a tombs.n tombs.c,.slice rks.a rks.n rks.c]
def offRows (bs:List Nat)(a:Addr)(n:Nat)(d:Nat->EntM):Chunk:=fun g=>(∀j,j<n->EntOK bs (d j))/\Rws a 4 n (fun j=>ec (d j)) g
theorem offOpen {bs:List Nat}{a:Addr}{n:Nat}{d:Nat->EntM}{L w}(h:Sat w (offRows bs a n d::L)):(∀j,j<n->EntOK bs (d j))/\Sat w (Rws a 4 n (fun j=>ec (d j))::L):=by
 obtain⟨g,⟨h1,hc⟩,hg⟩:=h
 exact⟨h1,g,hc,hg⟩
theorem offShut {bs:List Nat}{a:Addr}{n:Nat}{d:Nat->EntM}{L w}(h1: ∀j,j<n->EntOK bs (d j))(h:Sat w (Rws a 4 n (fun j=>ec (d j))::L)):Sat w (offRows bs a n d::L):=h.cons fun _ hc=>⟨h1,hc⟩
def offI (D : Hp) (q a : Addr) (fmt : FV) (data s tombs rks : Sl) (bs : List Nat) (hc : Cont D data bs) (ha : 0 < s.n -> s.a = some a) (hn : s.n < 2^60) : SortI EntM where
 v:=.mk 76 (.pointer (some q))
 n:=s.n
 lt:=entLt
 St:=fun d=>[offRows bs a s.n d,Arr q (fbc fmt data s tombs rks),Own D]
 small:=hn
 less:=fun d i j R w K hs hi hi' hj hj' k=>by
  refine CallI_run m76Less (call189 ?_)
  unfold F189
  have hs':Sat w (offRows bs a s.n d::Arr q (fbc fmt data s tombs rks)::Own D::R):=hs
  obtain⟨hb,h⟩:=offOpen hs'
  have hbi:=hb i.toNat om
  have hbj:=hb j.toNat om
  have ki:=hbi.ke.1
  have kj:=hbj.ke.1
  have hcn:=hc.n
  have hcc:=hc.nc
  have r1: ∀(m:Nat) (v:Value),(ec (d i.toNat))[m]? =some v->w.drew.cell? ((a.add (i.toNat*4)).add m)=some v:=fun m v e=>rowCell (f:=fun j=>ec (d j)) (h.near (w':=w.drew)) om e
  have r2: ∀(m:Nat) (v:Value),(ec (d j.toNat))[m]? =some v->w.drew.cell? ((a.add (j.toNat*4)).add m)=some v:=fun m v e=>rowCell (f:=fun j=>ec (d j)) (h.near (w':=w.drew)) om e
  have ea:s.a=some a:=ha om
  have c1:=(hc.keyAt hbi).bytes
  have c2:=(hc.keyAt hbj).bytes
  have hki:(d i.toNat).ks<=(d i.toNat).ke:=by unfold EntM.ke;omega
  have hkj:(d j.toNat).ks<=(d j.toNat).ke:=by unfold EntM.ke;omega
  unfold fbc at h
  refine⟨_,rfl,Ld1 h ⟨⟨hi,hi'⟩,_,ea,_,rfl,Ld1 h ⟨⟨hj,hj'⟩,_,ea,_,rfl,Ld1 h ⟨_,rfl,LdC (r1 2 _ rfl) ⟨_,rfl,LdC (r1 3 _ rfl) ⟨⟨by omega,by omega,by dsimp only;omega⟩,_,rfl,Ld1 h ⟨_,rfl,LdC (r2 2 _ rfl) ⟨_,rfl,LdC (r2 3 _ rfl) ⟨⟨by omega,by omega,by dsimp only;omega⟩,_,rfl,Ld1 h ?_⟩⟩⟩⟩⟩⟩⟩⟩⟩
  dsimp only
  rw[Int.toNat_natCast,Int.toNat_natCast,Int.toNat_natCast,Int.toNat_natCast]
  refine callCmp (a:=⟨(sub data.a 1 (d i.toNat).ks (d i.toNat).ke data.c).a,(d i.toNat).ke-(d i.toNat).ks,data.c-(d i.toNat).ks⟩) (b:=⟨(sub data.a 1 (d j.toNat).ks (d j.toNat).ke data.c).a,(d j.toNat).ke-(d j.toNat).ks,data.c-(d j.toNat).ks⟩) (h.near.rdB .k2 c1) (h.near.rdB .k2 c2) ?_
  refine ifd (fun hlt=>?_) (fun hge=>ifd (fun hgt=>?_) fun hle=>?_)
  ·have e:entLt (d i.toNat) (d j.toNat)=true:=(entSWO_aux _ _).2 (.inl hlt)
   rw[<-e];exact k _ hs.near
  ·have e:entLt (d i.toNat) (d j.toNat)=false:=by
    rw[<-Bool.not_eq_true,entSWO_aux]
    omega
   rw[<-e];exact k _ hs.near
  ·refine⟨_,rfl,LdC (r1 0 _ rfl) ⟨_,rfl,LdC (r2 0 _ rfl) ?_⟩⟩
   have e:entLt (d i.toNat) (d j.toNat)=decide (((d i.toNat).off:Int)>((d j.toNat).off:Int)):=by
    rw[Bool.eq_iff_iff,entSWO_aux,decide_eq_true_eq]
    omega
   rw[<-e];exact k _ hs.near
 swap:=fun d i j R w K hs hi hi' hj hj' k=>by
  refine CallI_run m76Swap (call190 ?_)
  unfold F190
  have hs':Sat w (offRows bs a s.n d::Arr q (fbc fmt data s tombs rks)::Own D::R):=hs
  obtain⟨hb,h⟩:=offOpen hs'
  have r1:RdL w.drew (a.add (i.toNat*4)) (ec (d i.toNat)):=rowRd (f:=fun j=>ec (d j)) h.near om
  have r2:RdL w.drew (a.add (j.toNat*4)) (ec (d j.toNat)):=rowRd (f:=fun j=>ec (d j)) h.near om
  unfold ec at r1 r2
  have ea:s.a=some a:=ha om
  have h':=h
  unfold fbc at h
  refine⟨_,rfl,Ld1 h ⟨_,rfl,Ld1 h ⟨_,rfl,Ld1 h ⟨⟨hj,hj'⟩,_,ea,LdR r2 ⟨_,rfl,Ld1 h ⟨⟨hi,hi'⟩,_,ea,LdR r1 ⟨⟨hi,hi'⟩,_,ea,?_⟩⟩⟩⟩⟩⟩⟩
  refine rowSet (k:=4) (j:=i.toNat) (h'.near (w':=w.drew)) om rfl rfl (ec_one (d j.toNat)) fun w h=>⟨⟨hj,hj'⟩,_,ea,?_⟩
  refine rowSet (k:=4) (j:=j.toNat) h om ?_ rfl (ec_one (d i.toNat)) fun w h=>k w ?_
  ·unfold upd;split<;>rfl
  ·rw[Rws.congr (g:=fun x=>ec (swp d i.toNat j.toNat x))]at h
   ·refine offShut (fun q hq=>?_) h
    unfold swp upd
    by_cases e1:q=j.toNat
    ·rw[if_pos e1];exact hb _ om
    ·rw[if_neg e1]
     by_cases e2:q=i.toNat
     ·rw[if_pos e2];exact hb _ om
     ·rw[if_neg e2];exact hb _ hq
   ·intro x _
    unfold swp upd
    by_cases e1:x=j.toNat
    ·rw[if_pos e1,if_pos e1];rfl
    ·rw[if_neg e1,if_neg e1]
     by_cases e2:x=i.toNat
     ·rw[if_pos e2,if_pos e2];rfl
     ·rw[if_neg e2,if_neg e2]
theorem off_len {D}{q a:Addr}{fmt}{data s tombs rks:Sl}{bs:List Nat}{hc:Cont D data bs}{ha:0<s.n->s.a=some a}{hn:s.n<2^60}{d:Nat->EntM}{R}(w:World)(K:Int->WP)(hs:Sat w ((offI D q a fmt data s tombs rks bs hc ha hn).St d++R))(k: ∀w',Sat w' ((offI D q a fmt data s tombs rks bs hc ha hn).St d++R)->K s.n w'):
  CallI Tryz.prog (offI D q a fmt data s tombs rks bs hc ha hn).v.enc "Len" [] [.one (.int .i64)] K w:=by
 refine CallI_run m76Len (call188 ?_)
 unfold F188
 have h:Sat w (offRows bs a s.n d::Arr q (fbc fmt data s tombs rks)::Own D::R):=hs
 unfold fbc at h
 exact⟨_,rfl,Ld1 h (k _ hs)⟩
theorem offSWO {D}{q a:Addr}{fmt}{data s tombs rks:Sl}{bs:List Nat}{hc:Cont D data bs}{ha:0<s.n->s.a=some a}{hn:s.n<2^60}:SWO (offI D q a fmt data s tombs rks bs hc ha hn).lt:=by
 refine⟨fun x y h=>?_,fun x y z h k=>?_⟩
 ·show entLt y x=false
  have h:entLt x y=true:=h
  rw[entSWO_aux]at h
  rw[<-Bool.not_eq_true,entSWO_aux]
  have:=bcmp_anti x.op.key y.op.key
  omega
 ·show entLt x z=false
  have h:entLt x y=false:=h
  have k:entLt y z=false:=k
  rw[<-Bool.not_eq_true,entSWO_aux]at h k|-
  have a1:=bcmp_anti x.op.key y.op.key
  have a2:=bcmp_anti y.op.key z.op.key
  have a3:=bcmp_anti x.op.key z.op.key
  have t1:bcmp z.op.key y.op.key<=0:=by omega
  have t2:bcmp y.op.key x.op.key<=0:=by omega
  have t3:=bcmp_trans t1 t2
  rintro(h1|⟨h1,h2⟩)
  ·omega
  ·have e:=bcmp_zero h1
   rw[e]at h a1 t2
   omega
def edf :EntM:=⟨0,0,⟨0,.empty,.empty,.empty,.empty,0⟩⟩
structure ESorted (E E':List EntM):Prop where
 perm:E'.Perm E
 so: ∀(i j:Nat) (x y:EntM),i<j->E'[i]? =some x->E'[j]? =some y->entLt y x=false
theorem sortOffs {D}{q:Addr}{fmt}{data s tombs rks:Sl}{bs:List Nat}{E:List EntM}{R w}{K:Unit->WP}(hc:Cont D data bs)(hE: ∀e∈E,EntOK bs e)(hn:s.n=E.length)(hlen:E.length<2^40)
  (h:Sat w (Buf 4 s (E.flatMap ec)::Arr q (fbc fmt data s tombs rks)::Own D::R)) (k: ∀E' w',ESorted E E'->Sat w' (Buf 4 s (E'.flatMap ec)::Arr q (fbc fmt data s tombs rks)::Own D::R)->K () w'):CallF Tryz.prog 88 [(.iface 76 (.pointer (some q)))] [] K w:=by
 have h1:=h
 rw[<-flat_all ec edf E,<-hn]at h1
 have hnone:s.a=none->s.n=0/\s.c=0:=fun hh=>by
  obtain⟨g,hg,_⟩:=h1
  unfold Buf at hg
  rw[hh]at hg
  exact⟨hg.1,hg.2.1⟩
 obtain⟨hnc,hka,h2⟩:=bufOpen (k:=4) (p:=q) (fun j _=>rfl) (Nat.succ_pos _) h1
 have hn60:s.n<2^60:=by omega
 have hok: ∀j,j<s.n->EntOK bs (E.getD j edf):=fun j hj=>by
  rw[List.getD_eq_getElem?_getD,List.getElem?_eq_getElem om]
  exact hE _ (List.getElem_mem _)
 have h3:Sat w (Rws (s.a.getD q) 4 s.n (fun j=>ec (E.getD j edf))::Arr q (fbc fmt data s tombs rks)::Own D::spareO 4 s::R):=((h2.mv 1).pt 3)
 have h4:Sat w ((offI D q (s.a.getD q) fmt data s tombs rks bs hc hka hn60).St (fun j=>E.getD j edf)++(spareO 4 s::R)):=offShut hok h3
 refine call88 (data1:=.mk 76 (.pointer (some q))) (spec88 (I:=offI D q (s.a.getD q) fmt data s tombs rks bs hc hka hn60) offSWO (fun w K hs k=>off_len w K hs k) h4 fun d' w hsm hso h=>?_)
 obtain⟨hr0,h5⟩:=offOpen (show Sat w (offRows bs (s.a.getD q) s.n d'::Arr q (fbc fmt data s tombs rks)::Own D::spareO 4 s::R)from h)
 have h6:=bufShut (k:=4) (f:=fun j=>ec (d' j)) (m:=s.n) (p:=q) (fun j hj=>rfl) (Nat.le_refl _) hnone ((h5.mv 3).mv 1)
 have e:flat (fun j=>ec (d' j)) s.n=((List.range E.length).map d').flatMap ec:=by
  rw[hn]
  have: ∀n,flat (fun j=>ec (d' j)) n=((List.range n).map d').flatMap ec:=by
   intro n
   induction n with
   |zero=>rfl
   |succ n ih=>rw[flat,ih,List.range_succ,List.map_append,List.flatMap_append];simp
  exact this _
 rw[e]at h6
 refine k _ w ⟨?_,fun i j x y hij ex ey=>?_⟩ h6
 ·have h7:SameI 0 E.length (fun j=>E.getD j edf) d':=by rw[<-hn];exact hsm
  have:=h7.perm
  rwa[range_getD edf E]at this
 ·have hj:=(List.getElem?_eq_some_iff.1 ey).1
  rw[List.length_map,List.length_range]at hj
  rw[List.getElem?_map,List.getElem?_range om]at ex
  rw[List.getElem?_map,List.getElem?_range hj]at ey
  injection ex with ex
  injection ey with ey
  subst ex ey
  exact hso i j (Nat.zero_le _) hij (by show j<s.n;omega)
end Go.Proofs.YtpkoddfamelnhaaGreatDoor
