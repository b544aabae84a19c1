/- Part 21 of the proof of fnBatchHistory_card. Conditions: none. -/
import Derived.Test.YtpkoddfamelnhaaGreatDoorH19
import Derived.Test.YtpkoddfamelnhaaGreatDoorH20
set_option linter.unusedVariables false
set_option linter.unusedSimpArgs false
namespace Go.Tr
theorem bufAbs {D:Hp}{k:Nat}{s:Sl}{cs:List Value}{w L}(h:Sat w (Own D::Buf k s cs::L)): ∃G:Hp,D.le G/\(∀j v,cs[j]? =some v-> ∃a,s.a=some a/\DAt G (a.add j) v)/\Sat w (Own G::L):=by
 obtain⟨G,g,hg,h1,h2,h3⟩:=Sat.absorb h
 refine⟨G,h1,fun j v e=>?_,h3⟩
 unfold Buf at hg
 cases ha:s.a with
 |none=>rw[ha]at hg;rw[hg.2.2.1]at e;simp at e
 |some a=>
  rw[ha]at hg
  obtain⟨_,sp,_,hc⟩:=hg
  refine⟨a,rfl,false,h2 _ _ (hc.1 j v ?_)⟩
  have hj:j<cs.length:=(List.getElem?_eq_some_iff.1 e).1
  rw[List.getElem?_append_left hj];exact e
theorem flat_get {α:Type}{f:α->List Value}{k:Nat}: ∀(l:List α),(∀x,(f x).length=k)-> ∀(j i:Nat) (x:α) (v:Value),l[j]? =some x->(f x)[i]? =some v->(l.flatMap f)[j*k+i]? =some v
 | [],_,j,i,x,v,e,_=>by simp at e
 | y :: l, hk, j, i, x, v, e, ev => by
  rw[List.flatMap_cons]
  have hi:i<k:=by rw[<-hk x];exact(List.getElem?_eq_some_iff.1 ev).1
  cases j with
  |zero=>
   simp only[List.getElem?_cons_zero,Option.some.injEq]at e
   subst e
   rw[Nat.zero_mul,Nat.zero_add,List.getElem?_append_left (by rw[hk];exact hi)];exact ev
  |succ j=>
   rw[List.getElem?_append_right (by rw[hk,Nat.succ_mul];omega),hk,show(j+1)*k+i-k=j*k+i by rw[Nat.succ_mul];omega]
   exact flat_get l hk j i x v (by simpa using e) ev
theorem Sat.tail2 {w}{a b:Chunk}{L}(h:Sat w (a::b::L)):Sat w L:=h.tail.tail
end Go.Tr
namespace Go.Proofs.YtpkoddfamelnhaaGreatDoor
open Go Go.Tr
set_option maxRecDepth 100000
abbrev nl :Sl:=⟨none,0,0⟩
def PKeysRd (w:World)(x:Sl)(ks:List KeyM):Prop:=x.n=ks.length/\ ∀(j:Nat) (hj:j<ks.length),∃e,x.a=some e/\RdL w (e.add (j*3)) [.int .u64 (ks[j]).tr,.string (ks[j]).suf,.string (ks[j]).val]
def PSpansRd (w:World)(x:Sl)(ys:Nat->Sl)(l:List SpanM):Prop:=x.n=l.length/\ ∀(j:Nat) (hj:j<l.length),∃e:Addr,x.a=some e/\RdL w (e.add (j*3)) [.string (l[j]).lo,.string (l[j]).hi,.slice (ys j).a (ys j).n (ys j).c]/\PKeysRd w (ys j) (l[j]).keys
def PLevRd (w:World)(x:Sl)(zs:Nat->Sl)(ys:Nat->Nat->Sl)(ls:List (List SpanM)):Prop:=x.n=ls.length/\ ∀(j:Nat) (hj:j<ls.length),∃e:Addr,x.a=some e/\w.cell? (e.add (j*1))=some (.slice (zs j).a (zs j).n (zs j).c)/\PSpansRd w (zs j) (ys j) ls[j]
theorem stepB {D:Hp}{t:ByteArray}{e:Nat}{X w w1}{Kb:Sl->WP}(h:Sat w (Own D::X))[Near w w1](k: ∀D' b w',D.le D'->BytesAt D' b t->b.a.isSome=true->Sat w' (Own D'::X)->Kb b w'):BytesP e t Kb w1:=by
 refine BytesP_run h fun p c w hc h=>?_
 obtain⟨G,g,hg,h1,h2,h3⟩:=Sat.absorb h.t1
 exact k G _ w h1 (bytesAt_arr hg h2) rfl h3
theorem spec100 {D:Hp}{t:ByteArray}{X w}{K:Sl->WP}(h:Sat w (Own D::X))(k: ∀D' b w',D.le D'->BytesAt D' b t->Sat w' (Own D'::X)->K b w'):F100 t K w:=by
 unfold F100
 rw[toList_beq]
 by_cases e:t= .empty
 ·rw[if_pos (by simp[e])]
  exact k D _ w (Hp.le_refl _) ⟨e,rfl⟩ h
 ·rw[if_neg (by simp[e])]
  exact stepB h fun D' b w h1 h2 _ h3=>k D' b w h1 h2 h3
theorem KRel.mono {D D':Hp}(hd:D.le D'): ∀{l:List KC} {s:List KeyM},KRel D l s->KRel D' l s
 | [],[],_=>trivial
 | [],_::_,h=>h.elim
 |_::_,[],h=>h.elim
 |_::_,_::_,⟨h1,h2⟩=>⟨⟨h1.1,h1.2.1.mono hd,h1.2.2.mono hd⟩,KRel.mono hd h2⟩
theorem KCells.mono {D D':Hp}(hd:D.le D'){x:Sl}{ks:List KC}(h:KCells D x ks):KCells D' x ks:=⟨h.1,fun j k e=>by
 obtain⟨a,ha,h1⟩:=h.2 j k e
 exact⟨a,ha,fun i v ev=>(h1 i v ev).mono hd⟩⟩
theorem KeysAt.mono {D D':Hp}(hd:D.le D'){x:Sl}{l:List KeyM}(h:KeysAt D x l):KeysAt D' x l:=by
 obtain⟨ks,h1,h2⟩:=h
 exact⟨ks,h1.mono hd,h2.mono hd⟩
theorem SlAt.mono {D D':Hp}(hd:D.le D'){p:Addr}{s:ByteArray}(h:SlAt D p s):SlAt D' p s:=by
 obtain⟨x,⟨h1,h2⟩,h3⟩:=h
 exact⟨x,⟨h1.mono hd,h2⟩,h3.mono hd⟩
theorem SpanAt.mono {D D':Hp}(hd:D.le D'){p:Addr}{s:SpanM}(h:SpanAt D p s):SpanAt D' p s:=by
 obtain⟨h1,h2,x,h3,h4⟩:=h
 exact⟨h1.mono hd,h2.mono hd,x,h3.mono hd,h4.mono hd⟩
theorem spec66 {D:Hp}{l:Sl}{ks:List KeyM}{R w}{K:Sl->WP}(hrd: ∀w,Sat w R->PKeysRd w l ks)(hlen:ks.length<2^32)(h:Sat w (Own D::R))
  (k: ∀D' x w',D.le D'->KeysAt D' x ks->Sat w' (Own D'::R)->K x w'):F66 l K w:=by
 unfold F66
 have hn:l.n=ks.length:=(hrd w h.tail).1
 refine⟨fun m (z:Sl×Int) w=> ∃(j:Nat) (D1:Hp) (acc:List KC),z.2=j/\j<=ks.length/\m=ks.length-j/\D.le D1/\KRel D1 acc (ks.take j)/\acc.length=j/\z.1.n=j/\Sat w (Own D1::Buf 3 z.1 (acc.flatMap kcells)::R),
  ⟨_,0,D,[],rfl,Nat.zero_le _,rfl,Hp.le_refl _,trivial,rfl,rfl,(Sat.bufNil 3 h).t1⟩,?_⟩
 clear h
 rintro m ⟨out,i⟩ w ⟨j,D1,acc,e,hj,hm,hD,hrel,hal,hon,h⟩
 dsimp only at e hon|-
 subst e
 refine ifd (fun hlt=>?_) (fun hge=>?_)
 ·have hjl:j<ks.length:=by omega
  have ew:IntKind.i64.wrap ((j:Int)+1)=((j+1:Nat):Int):=w1 om
  rw[ew,Int.toNat_natCast]
  obtain⟨e,he,hr⟩:=(hrd w h.tail.tail).2 j hjl
  refine⟨⟨by omega,hlt⟩,e,he,LdR hr ?_⟩
  refine NewP_run h fun n6 w h=>StL_of (St1 h rfl fun w h=>St1 h rfl fun w h=>St1 h rfl fun w h=>?_)
  refine Ld1 h (Ld1 h (Ld1 h ?_))
  refine call100 (spec100 (D:=D1) (h.near (w':=w.drew)).t1 fun D2 b1 w a1 a2 h=>?_)
  refine⟨LdAt1 h,LdAt1 h,?_⟩
  refine call100 (spec100 (D:=D2) h fun D3 b2 w c1 c2 h=>?_)
  refine⟨LdAt1 h,?_⟩
  refine NewS_run h fun p w h=>?_
  refine App1 (k:=3) rfl h .k3 .here rfl (kcells_one ((ks[j]).tr,b1,b2)) ?_ om fun r w er ea h=>?_
  ·show(2*(out.n+1)+1024)*56<=_
   omega
  have h2:Sat w (Own D3::Buf 3 r (acc.flatMap kcells++kcells ((ks[j]).tr,b1,b2))::R):=((h.t1.tail).t1.t2.tail)
  refine⟨_,?_,j+1,D3,acc++[((ks[j]).tr,b1,b2)],rfl,hjl,rfl,(hD.trans a1).trans c1,?_,by simp[hal],by show r.n=j+1;omega,?_⟩
  ·omega
  ·have e1:ks.take (j+1)=ks.take j++[ks[j]]:=by rw[List.take_add_one,List.getElem?_eq_getElem hjl];rfl
   rw[e1]
   exact(hrel.mono (a1.trans c1)).app ⟨⟨rfl,a2.mono c1,c2⟩,trivial⟩
  ·have e1:(acc++[((ks[j]).tr,b1,b2)]).flatMap kcells=acc.flatMap kcells++kcells ((ks[j]).tr,b1,b2):=by simp[List.flatMap_append]
   rw[e1];exact h2
 ·have:j=ks.length:=by omega
  subst this
  obtain⟨G,h1,h2,h3⟩:=bufAbs h
  rw[List.take_length]at hrel
  refine k G out w (hD.trans h1) ⟨acc,⟨by omega,fun j x e=>?_⟩,hrel.mono h1⟩ h3
  have hj':j<acc.length:=(List.getElem?_eq_some_iff.1 e).1
  obtain⟨a,ha,_⟩:=h2 (j*3+0) (.int .u64 x.1) (flat_get (f:=kcells) (k:=3) acc (fun _=>rfl) j 0 x _ e rfl)
  refine⟨a,ha,fun i v ev=>?_⟩
  obtain⟨a',ha',hd⟩:=h2 (j*3+i) v (flat_get (f:=kcells) (k:=3) acc (fun _=>rfl) j i x v e ev)
  rw[ha]at ha'
  injection ha' with ha'
  rw[ha',Addr.add_add];exact hd
structure SpC where
 lo:Sl
 hi:Sl
 ks:Sl
def spc (x:SpC):List Value:=[.slice x.lo.a x.lo.n x.lo.c,.slice x.hi.a x.hi.n x.hi.c,.slice x.ks.a x.ks.n x.ks.c,.int .i8 0]
def SpRel (D:Hp)(x:SpC)(s:SpanM):Prop:=(BytesAt D x.lo s.lo/\x.lo.a.isSome=true)/\(BytesAt D x.hi s.hi/\x.hi.a.isSome=true)/\KeysAt D x.ks s.keys
theorem SpRel.mono {D D':Hp}(hd:D.le D'){x:SpC}{s:SpanM}(h:SpRel D x s):SpRel D' x s:=⟨⟨h.1.1.mono hd,h.1.2⟩,⟨h.2.1.1.mono hd,h.2.1.2⟩,h.2.2.mono hd⟩
theorem spec36 {D:Hp}{y:Sl}{s:SpanM}{R w}{K:Sl×Sl×Sl×Int->WP}(hrd: ∀w,Sat w R->PKeysRd w y s.keys)(hlen:s.keys.length<2^32)(h:Sat w (Own D::R))
  (k: ∀D' x w',D.le D'->SpRel D' x s->Sat w' (Own D'::R)->K (x.lo,x.hi,x.ks,0) w'):F36 (s.lo,s.hi,y) K w:=by
 unfold F36
 refine NewP_run h fun n2 w h=>NewP_run h fun n3 w h=>?_
 refine Ld1 h (Ld1 h (Ld1 h ?_))
 have hX:Sat w (Own D::Arr n3 [.slice none 0 0,.slice none 0 0,.slice none 0 0,.int .i8 (0:Int)]::Arr n2 [.string s.lo,.string s.hi,.slice y.a y.n y.c]::R):=h.t2
 have hrd2: ∀w,Sat w (Arr n3 [.slice none 0 0,.slice none 0 0,.slice none 0 0,.int .i8 (0:Int)]::Arr n2 [.string s.lo,.string s.hi,.slice y.a y.n y.c]::R)->PKeysRd w y s.keys:=fun w h=>hrd w h.tail.tail
 have leaf: ∀(D':Hp) (a b x:Sl) (w:World),D.le D'->(BytesAt D' a s.lo/\a.a.isSome=true)->(BytesAt D' b s.hi/\b.a.isSome=true)->KeysAt D' x s.keys->Sat w (Own D'::Arr n3 [.slice none 0 0,.slice none 0 0,.slice none 0 0,.int .i8 (0:Int)]::Arr n2 [.string s.lo,.string s.hi,.slice y.a y.n y.c]::R)->
   StL n3 [.slice a.a a.n a.c,.slice b.a b.n b.c,.slice x.a x.n x.c,.int .i8 (0:Int)] (fun w=>Ld (.agg [.sl,.sl,.sl,.int .i8]) n3 (fun(r10:Sl×Sl×Sl×Int) w=>K (r10.1,r10.2.1,r10.2.2.1,r10.2.2.2) w) w) w:=by
  intro D' a b x w hD ha hb hx h
  refine StL_of (St1 h rfl fun w h=>St1 h rfl fun w h=>St1 h rfl fun w h=>St1 h rfl fun w h=>?_)
  exact LdN h (k D' ⟨a,b,x⟩ w hD ⟨ha,hb,hx⟩ (h.t1.tail.t1.tail))
 clear h
 refine⟨?_,?_,?_⟩
 ·refine stepB hX fun D1 a w l1 b1 s1 h=>⟨LdAt1 h,LdAt1 h,?_,?_⟩
  ·refine stepB h fun D2 b w l2 b2 s2 h=>⟨LdAt1 h,?_⟩
   exact call66 (l1:=y) (spec66 hrd2 hlen h fun D3 x w l3 hx h=>leaf D3 a b x w ((l1.trans l2).trans l3) ⟨(b1.mono l2).mono l3,s1⟩ ⟨b2.mono l3,s2⟩ hx h)
  ·refine call66 (l1:=y) (spec66 hrd2 hlen h fun D2 x w l2 hx h=>⟨LdAt1 h,?_⟩)
   exact stepB h fun D3 b w l3 b2 s2 h=>leaf D3 a b x w ((l1.trans l2).trans l3) ⟨(b1.mono l2).mono l3,s1⟩ ⟨b2,s2⟩ (hx.mono l3) h
 ·refine stepB hX fun D1 b w l1 b1 s1 h=>⟨LdAt1 h,LdAt1 h,?_,?_⟩
  ·refine stepB h fun D2 a w l2 b2 s2 h=>⟨LdAt1 h,?_⟩
   exact call66 (l1:=y) (spec66 hrd2 hlen h fun D3 x w l3 hx h=>leaf D3 a b x w ((l1.trans l2).trans l3) ⟨b2.mono l3,s2⟩ ⟨(b1.mono l2).mono l3,s1⟩ hx h)
  ·refine call66 (l1:=y) (spec66 hrd2 hlen h fun D2 x w l2 hx h=>⟨LdAt1 h,?_⟩)
   exact stepB h fun D3 a w l3 b2 s2 h=>leaf D3 a b x w ((l1.trans l2).trans l3) ⟨b2,s2⟩ ⟨(b1.mono l2).mono l3,s1⟩ (hx.mono l3) h
 ·refine call66 (l1:=y) (spec66 hrd2 hlen (hX.near (w':=w.drew)) fun D1 x w l1 hx h=>⟨LdAt1 h,LdAt1 h,?_,?_⟩)
  ·refine stepB h fun D2 a w l2 b2 s2 h=>⟨LdAt1 h,?_⟩
   exact stepB h fun D3 b w l3 b3 s3 h=>leaf D3 a b x w ((l1.trans l2).trans l3) ⟨b2.mono l3,s2⟩ ⟨b3,s3⟩ ((hx.mono l2).mono l3) h
  ·refine stepB h fun D2 b w l2 b2 s2 h=>⟨LdAt1 h,?_⟩
   exact stepB h fun D3 a w l3 b3 s3 h=>leaf D3 a b x w ((l1.trans l2).trans l3) ⟨b3,s3⟩ ⟨b2.mono l3,s2⟩ ((hx.mono l2).mono l3) h
def SpsRel (D:Hp):List SpC->List SpanM->Prop
 | [],[]=>True
 |k::ks,m::ms=>SpRel D k m/\SpsRel D ks ms
 |_,_=>False
theorem SpsRel.mono {D D':Hp}(hd:D.le D'): ∀{l:List SpC} {s:List SpanM},SpsRel D l s->SpsRel D' l s
 | [],[],_=>trivial
 | [],_::_,h=>h.elim
 |_::_,[],h=>h.elim
 |_::_,_::_,⟨h1,h2⟩=>⟨h1.mono hd,SpsRel.mono hd h2⟩
theorem SpsRel.app {D}: ∀{a c:List SpC} {b d:List SpanM},SpsRel D a b->SpsRel D c d->SpsRel D (a++c) (b++d)
 | [],_,[],_,_,k=>k
 | [],_,_::_,_,h,_=>h.elim
 |_::_,_,[],_,h,_=>h.elim
 |_::_,_,_::_,_,⟨h1,h2⟩,k=>⟨h1,SpsRel.app h2 k⟩
theorem SpsRel.len {D}: ∀{a:List SpC} {b:List SpanM},SpsRel D a b->a.length=b.length
 | [],[],_=>rfl
 | [],_::_,h=>h.elim
 |_::_,[],h=>h.elim
 |_::_,_::_,⟨_,h⟩=>by simp[SpsRel.len h]
theorem SpsRel.get {D}: ∀{a:List SpC} {b:List SpanM},SpsRel D a b-> ∀(j:Nat) (x:SpC) (s:SpanM),a[j]? =some x->b[j]? =some s->SpRel D x s
 | [],[],_,j,x,s,e,_=>by simp at e
 | [],_::_,h,_,_,_,_,_=>h.elim
 |_::_,[],h,_,_,_,_,_=>h.elim
 | k :: a, m :: b, ⟨h1, h2⟩, j, x, s, e1, e2 => by
  cases j with
  |zero=>
   simp only[List.getElem?_cons_zero,Option.some.injEq]at e1 e2
   rw[<-e1,<-e2];exact h1
  |succ j=>exact SpsRel.get h2 j x s (by simpa using e1) (by simpa using e2)
theorem spc_one (x:SpC): ∀v∈spc x,v.oneCell'=true:=by
 intro v hv
 simp only[spc,List.mem_cons,List.not_mem_nil,or_false]at hv
 rcases hv with rfl|rfl|rfl|rfl<;>rfl
theorem spec65 {D:Hp}{l:Sl}{ys:Nat->Sl}{ss:List SpanM}{R w}{K:Sl->WP}(hrd: ∀w,Sat w R->PSpansRd w l ys ss)(hlen:ss.length<2^32)(hkn: ∀s∈ss,s.keys.length<2^32)(h:Sat w (Own D::R))
  (k: ∀D' e c w',D.le D'->SpansAt D' e ss->Sat w' (Own D'::R)->K ⟨sle e ss.length,ss.length,c⟩ w'):F65 l K w:=by
 unfold F65
 have hn:l.n=ss.length:=(hrd w h.tail).1
 refine⟨fun m (z:Sl×Int) w=> ∃(j:Nat) (D1:Hp) (acc:List SpC),z.2=j/\j<=ss.length/\m=ss.length-j/\D.le D1/\SpsRel D1 acc (ss.take j)/\acc.length=j/\z.1.n=j/\z.1.a.isSome=decide (0<j)/\Sat w (Own D1::Buf 4 z.1 (acc.flatMap spc)::R),
  ⟨_,0,D,[],rfl,Nat.zero_le _,rfl,Hp.le_refl _,trivial,rfl,rfl,rfl,(Sat.bufNil 4 h).t1⟩,?_⟩
 clear h
 rintro m ⟨out,i⟩ w ⟨j,D1,acc,e,hj,hm,hD,hrel,hal,hon,hos,h⟩
 dsimp only at e hon hos|-
 subst e
 refine ifd (fun hlt=>?_) (fun hge=>?_)
 ·have hjl:j<ss.length:=by omega
  have ew:IntKind.i64.wrap ((j:Int)+1)=((j+1:Nat):Int):=w1 om
  rw[ew,Int.toNat_natCast]
  obtain⟨e,he,hr,hy⟩:=(hrd w h.tail.tail).2 j hjl
  have hy': ∀w,Sat w R->PKeysRd w (ys j) (ss[j]).keys:=fun w h=>by
   obtain⟨_,_,_,h2⟩:=(hrd w h).2 j hjl
   exact h2
  refine⟨⟨by omega,hlt⟩,e,he,LdR hr ?_⟩
  refine NewP_run h fun n6 w h=>StL_of (St1 h rfl fun w h=>St1 h rfl fun w h=>St1 h rfl fun w h=>?_)
  refine LdN h ?_
  refine call36 (s1:=((ss[j]).lo,(ss[j]).hi,ys j)) (spec36 (s:=ss[j]) (R:=Buf 4 out (acc.flatMap spc)::R) (fun w h=>hy' w h.tail) (hkn _ (List.getElem_mem hjl)) h.tail fun D2 x w a1 a2 h=>?_)
  refine NewS_run h fun p w h=>?_
  refine App1 (k:=4) rfl h .k2 .here rfl (spc_one x) ?_ om fun r w er ea h=>?_
  ·show(2*(out.n+1)+1024)*80<=_
   omega
  have h2:Sat w (Own D2::Buf 4 r (acc.flatMap spc++spc x)::R):=(h.t1.tail).t1
  refine⟨_,?_,j+1,D2,acc++[x],rfl,hjl,rfl,hD.trans a1,?_,by simp[hal],by show r.n=j+1;omega,by rw[ea];simp,?_⟩
  ·omega
  ·have e1:ss.take (j+1)=ss.take j++[ss[j]]:=by rw[List.take_add_one,List.getElem?_eq_getElem hjl];rfl
   rw[e1]
   exact(hrel.mono a1).app ⟨a2,trivial⟩
  ·have e1:(acc++[x]).flatMap spc=acc.flatMap spc++spc x:=by simp[List.flatMap_append]
   rw[e1];exact h2
 ·have:j=ss.length:=by omega
  subst this
  obtain⟨G,h1,h2,h3⟩:=bufAbs h
  rw[List.take_length]at hrel
  obtain⟨a,n,cc⟩:=out
  dsimp only at hon hos h2
  subst hon
  have ea:a=sle (a.getD ⟨0,0,none⟩) ss.length:=by
   unfold sle
   cases a with
   |none=>
    have: ¬0<ss.length:=of_decide_eq_false hos.symm
    rw[if_pos om]
   |some a=>
    have:0<ss.length:=of_decide_eq_true hos.symm
    rw[if_neg om];rfl
  rw[ea]
  refine k G (a.getD ⟨0,0,none⟩) cc w (hD.trans h1) (fun j s e=>?_) h3
  have hjl:j<ss.length:=(List.getElem?_eq_some_iff.1 e).1
  have hx:acc[j]? =some acc[j]:=List.getElem?_eq_getElem om
  generalize acc[j]=x at hx
  have hr:=(hrel.mono h1).get j x s hx e
  have rd: ∀i v,(spc x)[i]? =some v->DAt G (((a.getD ⟨0,0,none⟩).add (j*4)).add i) v:=fun i v ev=>by
   obtain⟨a',ha',hd⟩:=h2 (j*4+i) v (flat_get (f:=spc) (k:=4) acc (fun _=>rfl) j i x v hx ev)
   rw[ha',Addr.add_add];exact hd
  exact⟨⟨x.lo,⟨rd 0 _ rfl,hr.1.2⟩,hr.1.1⟩,⟨x.hi,⟨rd 1 _ rfl,hr.2.1.2⟩,hr.2.1.1⟩,x.ks,rd 2 _ rfl,hr.2.2⟩
end Go.Proofs.YtpkoddfamelnhaaGreatDoor
namespace Go.Tr
theorem StL_all {w w1 L}{p:Addr}{xs vs:List Value}{K:WP}(h:Sat w (Arr p xs::L))[Near w w1](hl:vs.length=xs.length)(h1: ∀v∈vs,v.oneCell'=true)(k: ∀w',Sat w' (Arr p vs::L)->K w'):StL p vs K w1:=by
 obtain⟨ho,hs⟩:=setArr (p:=p) (o:=0) (vs:=vs) (xs:=xs) om (h.near (w':=w1)) h1
 refine⟨ho,k _ ?_⟩
 rw[List.take_zero,List.nil_append,Nat.zero_add,hl,List.drop_length,List.append_nil]at hs
 exact hs
def arrs (p:Addr):Nat->List (List Value)->List Chunk
 |_,[]=>[]
 |o,xs::r=>Arr (p.add o) xs::arrs p (o+xs.length) r
theorem SatU.splits {w}{p:Addr}{L}: ∀(xss:List (List Value)) (o:Nat) (U:Addr->Prop),SatU w U (Arr (p.add o) xss.flatten::L)->SatU w U (arrs p o xss++L)
 | [],o,U,h=>by
  obtain⟨g,hc,hg,hr⟩:=h
  exact SatU.mono (fun _ h=>.inl h) hr
 |xs::r,o,U,h=>by
  rw[List.flatten_cons]at h
  obtain⟨g,hc,hg,hr⟩:=h
  have h1:SatU w U (Arr (p.add o) xs::Arr ((p.add o).add xs.length) r.flatten::L):=SatU.star.1 ⟨g,arr_split hc,hg,hr⟩
  rw[Addr.add_add]at h1
  exact SatU.under (fun U h=>SatU.splits r _ U h) U h1
theorem Sat.splits {w}{p:Addr}{L}(xss:List (List Value))(h:Sat w (Arr p xss.flatten::L)):Sat w (arrs p 0 xss++L):=SatU.splits xss 0 _ h
theorem SatU.fam_mono {w}{c d:Nat->Chunk}{L}: ∀{k:Nat} (U:Addr->Prop),(∀i,i<k-> ∀g,c i g->d i g)->SatU w U (Fam k c::L)->SatU w U (Fam k d::L)
 |0,_,_,h=>h
 |k+1,U,hi,h=>by
  refine SatU.star.2 (SatU.under (fun U h=>SatU.fam_mono U (fun i hk=>hi i om) h) U ?_)
  obtain⟨g,hc,hg,hr⟩:=SatU.star.1 h
  exact⟨g,hi k om g hc,hg,hr⟩
theorem Sat.fam_mono {w}{c d:Nat->Chunk}{L}{k:Nat}(h:Sat w (Fam k c::L))(hi: ∀i,i<k-> ∀g,c i g->d i g):Sat w (Fam k d::L):=SatU.fam_mono _ hi h
theorem Sat.fam_le {w} {c : Nat -> Chunk} {L} {k : Nat} : ∀ {n : Nat}, k <= n -> Sat w (Fam n c :: L) -> Sat w (Fam k c :: L)
  | 0, hk, h => by have : k = 0 := by omega
                   subst this;exact h
  | n + 1, hk, h => by
    by_cases e:k=n+1
    · subst e;exact h
    · exact Sat.fam_le (n:=n) om (Sat.star.1 h).tail
theorem SatU.fam_merge {w}{c d e:Nat->Chunk}{L}: ∀{k:Nat} (U:Addr->Prop),(∀i,i<k-> ∀g,Star (c i) (d i) g->e i g)->SatU w U (Fam k c::Fam k d::L)->SatU w U (Fam k e::L)
 |0,U,_,h=>by
  obtain⟨g,hc,hg,hr⟩:=h
  exact SatU.mono (fun _ h=>.inl h) hr
 |k+1,U,hi,h=>by
  have h1:=SatU.star.1 h
  have h2:=SatU.under (fun U h=>SatU.swap h) U h1
  have h3:=SatU.under (fun U h=>SatU.star.1 h) U h2
  have h4:=SatU.star.2 h3
  obtain⟨g,hc,hg,hr⟩:=h4
  refine SatU.star.2 ⟨g,hi k om g hc,hg,?_⟩
  exact SatU.fam_merge _ (fun i hk=>hi i om) (SatU.swap hr)
theorem Sat.fam_merge {w}{c d e:Nat->Chunk}{L}{k:Nat}(h:Sat w (Fam k c::Fam k d::L))(hi: ∀i,i<k-> ∀g,Star (c i) (d i) g->e i g):Sat w (Fam k e::L):=SatU.fam_merge _ hi h
end Go.Tr
namespace Go.Proofs.YtpkoddfamelnhaaGreatDoor
open Go Go.Tr
set_option maxRecDepth 100000
def cmpCs :List Value:=[(.func (.func 45) #[] #[]),(.func (.func 46) #[] #[]),(.func (.func 47) #[] #[]),.nilFunc,(.func (.func 49) #[] #[]),.nilFunc,(.func (.func 51) #[] #[]),(.func (.func 52) #[] #[]),.string (⟨#[108,101,118,101,108,100,98,46,66,121,116,101,119,105,115,101,67,111,109,112,97,114,97,116,111,114]⟩)]
theorem spec24 {L w}{K:Option Addr->WP}(h:Sat w L)(k: ∀q w',Sat w' (Arr q cmpCs::L)->K (some q) w'):F24 K w:=by
 unfold F24
 refine⟨fun v hv=>?_,NewP_run h fun p w h=>k p w h⟩
 simp only[List.mem_cons,List.not_mem_nil,or_false]at hv
 rcases hv with rfl|rfl|rfl|rfl|rfl|rfl<;>rfl
def itF (S:Nat->LevS)(i:Nat):Chunk:=itC (S i).it (S i).e (S i).n (S i).c (-1)
def itVs (S:Nat->LevS)(n:Nat):List Value:=(List.range n).map fun i=>.iface 223 (.pointer (some (S i).it))
theorem SpansAt.mono {D D':Hp}(hd:D.le D'){e:Addr}{l:List SpanM}(h:SpansAt D e l):SpansAt D' e l:=fun j s e=>(h j s e).mono hd
theorem LevS.ok.mono {D D':Hp}(hd:D.le D'){S:LevS}(h:S.ok D):S.ok D':=⟨h.len,h.at_.mono hd,h.small⟩
theorem spec64 {e:Addr}{n c:Nat}{L w}{K:Option Addr->WP}(h:Sat w L)(k: ∀i w',Sat w' (itC i e n c (-1)::L)->K (some i) w'):F64 (.mk (.func 45) #[] #[]) ⟨sle e n,n,c⟩ K w:=by
 unfold F64
 refine NewP_run h fun i w h=>call99 (cmp2:=.mk (.func 45) #[] #[]) ?_
 unfold F99
 refine⟨fun v hv=>?_,_,rfl,StL_of (St1 h rfl fun w h=>St1 h rfl fun w h=>St1 h rfl fun w h=>k i w h)⟩
 simp only[List.mem_singleton]at hv
 subst hv;rfl
theorem spec35 {D:Hp}{l:Sl}{zs:Nat->Sl}{ys:Nat->Nat->Sl}{ls:List (List SpanM)}{R w}{K:Sl->WP}(hrd: ∀w,Sat w R->PLevRd w l zs ys ls)(hlen:ls.length<2^20)(hss: ∀ss∈ls,ss.length<2^32/\ ∀s∈ss,s.keys.length<2^32)(h:Sat w (Own D::R))
  (k: ∀D' S out w',D.le D'->(∀i (hi:i<ls.length),(S i).ok D'/\(S i).spans=ls[i])->out.n=ls.length->Sat w' (Own D'::Buf 1 out (itVs S ls.length)::Fam ls.length (itF S)::R)->K out w'):F35 l K w:=by
 unfold F35
 have hn:l.n=ls.length:=(hrd w h.tail).1
 refine⟨fun m (z:Sl×Int) w=> ∃(j:Nat) (D1:Hp) (S:Nat->LevS),z.2=j/\j<=ls.length/\m=ls.length-j/\D.le D1/\(∀i (hi:i<ls.length),i<j->(S i).ok D1/\(S i).spans=ls[i])/\z.1.n=j/\Sat w (Own D1::Buf 1 z.1 (itVs S j)::Fam j (itF S)::R),
  ⟨_,0,D,fun _=>⟨⟨0,0,none⟩,⟨0,0,none⟩,0,0,[]⟩,rfl,Nat.zero_le _,rfl,Hp.le_refl _,by omega,rfl,?_⟩,?_⟩
 ·have h1:Sat w (Fam 0 (itF fun _=>⟨⟨0,0,none⟩,⟨0,0,none⟩,0,0,[]⟩)::Own D::R):=SatU.nil (fun _=>rfl) h
  exact(Sat.bufNil 1 h1).t2
 clear h
 rintro m ⟨out,i⟩ w ⟨j,D1,S,e,hj,hm,hD,hS,hon,h⟩
 dsimp only at e hon|-
 subst e
 refine ifd (fun hlt=>?_) (fun hge=>?_)
 ·have hjl:j<ls.length:=by omega
  have ew:IntKind.i64.wrap ((j:Int)+1)=((j+1:Nat):Int):=w1 om
  rw[ew,Int.toNat_natCast]
  obtain⟨e,he,hr,hy⟩:=(hrd w h.tail.tail.tail).2 j hjl
  have hy': ∀w,Sat w R->PSpansRd w (zs j) (ys j) ls[j]:=fun w h=>by
   obtain⟨_,_,_,h2⟩:=(hrd w h).2 j hjl
   exact h2
  have hsj:=hss ls[j] (List.getElem_mem hjl)
  refine⟨⟨by omega,hlt⟩,e,he,LdC hr ?_⟩
  refine call24 (spec24 (h.near (w':=w.drew)) fun q w h=>⟨_,rfl,?_⟩)
  unfold cmpCs at h
  refine Ld1 h ?_
  refine call65 (l1:=zs j) (spec65 (R:=Arr q _::Buf 1 out _::Fam j _::R) (fun w h=>hy' w h.tail.tail.tail) hsj.1 hsj.2 h.t1 fun D2 e2 c2 w a1 a2 h=>⟨LdAt1 h,?_⟩)
  refine call64 (cmp1:=.mk (.func 45) #[] #[]) (spec64 h fun it w h=>?_)
  refine⟨fun v hv=>?_,NewS_run h fun p w h=>?_⟩
  ·simp only[List.mem_singleton]at hv
   subst hv;rfl
  refine App1 (k:=1) rfl h .k4 .here rfl (fun v hv=>?_) ?_ om fun r w er ea h=>?_
  ·simp only[List.mem_singleton]at hv
   subst hv;rfl
  ·show(2*(out.n+1)+1024)*16<=_
   omega
  have h2:=h.t1.tail
  have hc: ∀i,i<j->itF (upd S j ⟨it,e2,ls[j].length,c2,ls[j]⟩) i=itF S i:=fun i hi=>by unfold itF;rw[upd_other om]
  have hV:itVs (upd S j ⟨it,e2,ls[j].length,c2,ls[j]⟩) (j+1)=itVs S j++[.iface 223 (.pointer (some it))]:=by
   unfold itVs
   rw[List.range_succ,List.map_append]
   congr 1
   ·apply List.map_congr_left
    intro i hi
    rw[upd_other (by have:=List.mem_range.1 hi;omega)]
   ·simp
  refine⟨_,?_,j+1,D2,upd S j ⟨it,e2,ls[j].length,c2,ls[j]⟩,rfl,hjl,rfl,hD.trans a1,fun i hi hij=>?_,by show r.n=j+1;omega,?_⟩
  ·omega
  ·by_cases e3:i=j
   ·subst e3;rw[upd_same];exact⟨⟨rfl,a2,by dsimp only;omega⟩,rfl⟩
   ·rw[upd_other e3]
    obtain⟨g1,g2⟩:=hS i hi om
    exact⟨g1.mono a1,g2⟩
  ·rw[hV]
   have h3:Sat w (itC it e2 ls[j].length c2 (-1)::Fam j (itF S)::Own D2::Buf 1 r (itVs S j++[.iface 223 (.pointer (some it))])::R):=by
    have h4:=(h2.mv 3).tail
    exact((h4.mv 2).mv 3).mv 3
   have h4:=Sat.star.2 h3
   have e4:Fam (j+1) (itF (upd S j ⟨it,e2,ls[j].length,c2,ls[j]⟩))=Star (itC it e2 ls[j].length c2 (-1)) (Fam j (itF S)):=by
    simp only[Fam]
    rw[Fam.congr hc]
    unfold itF
    rw[upd_same]
   rw[e4]
   exact(h4.mv 2).mv 2
 ·have:j=ls.length:=by omega
  subst this
  exact k D1 S out w hD (fun i hi=>hS i hi hi) hon h
structure BtS where
 data:Sl
 mts:Int
 cnt:Nat
 crd:Int
 crk:Int
 dk:Sl
 dv:Sl
 off:Nat
 mfv:Int
def btc (s:BtS):List Value:=[.slice s.data.a s.data.n s.data.c,.nilFunc,.nilFunc,.nilFunc,.int .u64 s.mts,.pointer none,.int .u64 (s.cnt:Int),.int .u64 s.crd,.int .u64 s.crk,.pointer none,.slice s.dk.a s.dk.n s.dk.c,.slice s.dv.a s.dv.n s.dv.c,.int .u32 (s.off:Int),.pointer none,.pointer none,.pointer none,.slice none 0 0,.int .u64 (0:Int),.slice none 0 0,.int .u64 (0:Int),.pointer none,.int .u64 s.mfv,.nilIface,.bool false,.bool false,.int .u32 (0:Int)]
theorem zrep87 (c:Nat):zrep si87.l c=nb (List.replicate c 0):=by
 unfold zrep nb
 induction c with
 |zero=>rfl
 |succ c ih=>rw[List.replicate_succ,List.flatten_cons,ih,List.replicate_succ,List.map_cons];rfl
theorem rep_split (c i:Nat)(h:i<c):nb (List.replicate c 0)=nb (List.replicate i 0)++ .int .u8 (0:Int)::nb (List.replicate (c-i-1) 0):=by
 have:List.replicate c 0=List.replicate i 0++0::List.replicate (c-i-1) 0:=by
  rw[<-List.replicate_succ,List.replicate_append_replicate];congr 1;omega
 rw[this,nb_app];rfl
theorem spec127 {b:Addr}{s:BtS}{size:Int}{R w}{K:Unit->WP}(hd:s.data=⟨none,0,0⟩)(hs0:0<=size)(hs:size<=2^40)(h:Sat w (Arr b (btc s)::R))
  (k: ∀a c w',Sat w' (Arr b (btc {s with data:=⟨some a,12,c⟩})::Buf 1 ⟨some a,12,c⟩ (nb (List.replicate 12 0))::R)->K () w'):F127 (some b) size K w:=by
 unfold F127
 refine⟨fun m (z:Int) w=>m=(2^41-z).toNat/\1024<=z/\z<=2^41/\Sat w (Arr b (btc s)::R),⟨_,rfl,by omega,by omega,h⟩,?_⟩
 clear h
 rintro m z w ⟨hm,hz1,hz2,h⟩
 have h':=h
 unfold btc at h
 rw[hd]at h
 refine ifd (fun hlt=>?_) (fun hge=>?_)
 ·have ew:IntKind.i64.wrap (z*2)=z*2:=wi64 om om
  rw[ew]
  exact⟨_,by omega,rfl,by omega,by omega,h'⟩
 refine⟨fun _ w=> ∃a,Sat w (Arr b (btc {s with data:=⟨some a,12,z.toNat⟩})::Arr a (nb (List.replicate z.toNat 0))::R),?_,?_⟩
 ·clear h h'
  rintro _ w ⟨a,h⟩
  unfold btc at h
  refine⟨_,rfl,Ld1 h ⟨⟨by omega,by dsimp only;omega⟩,_,rfl,St1 h rfl fun w h=>?_⟩⟩
  refine⟨fun m (i:Int) w=> ∃j:Nat,i=j/\j<=12/\m=12-j/\Sat w (Arr b (btc {s with data:=⟨some a,12,z.toNat⟩})::Arr a (nb (List.replicate z.toNat 0))::R),⟨_,0,rfl,by omega,rfl,h⟩,?_⟩
  clear h
  rintro m i w ⟨j,rfl,hj,hm,h'⟩
  have h:=h'
  unfold btc at h
  refine⟨_,rfl,Ld1 h ?_⟩
  refine ifd (fun hlt=>?_) (fun hge=>?_)
  ·replace hlt:(j:Int)<12:=hlt
   refine⟨_,rfl,Ld1 h ⟨⟨by omega,hlt⟩,a,rfl,?_⟩⟩
   rw[rep_split z.toNat j om]at h'
   refine arrSt (h'.mv 1) (by rw[nb_len,List.length_replicate];rfl) rfl fun w h=>?_
   have ew:IntKind.i64.wrap ((j:Int)+1)=((j+1:Nat):Int):=w1 om
   rw[ew]
   rw[<-rep_split z.toNat j om]at h
   exact⟨_,by omega,j+1,rfl,by omega,rfl,h.mv 1⟩
  ·refine k a z.toNat w (h'.t1|>fun h=>?_)
   refine Sat.t1 (h.cons fun g hg=>?_)
   refine⟨by rw[nb_len];rfl,nb (List.replicate (z.toNat-12) 0),by simp only[nb_len,List.length_replicate];omega,?_⟩
   rw[<-nb_app,List.replicate_append_replicate,show 12+(z.toNat-12)=z.toNat by omega]
   exact hg
 ·refine⟨_,rfl,Ld1 h ?_⟩
  refine ifd (fun _=>?_) (fun hh=>absurd (by show((0:Nat):Int)<z;omega) hh)
  refine MakeP_run h ⟨by omega,by omega,by show(1:Int)*z<=_;omega,by omega⟩ fun p w h=>?_
  rw[zrep87]at h
  refine⟨_,rfl,?_⟩
  have h2:=h.t1
  exact St1 h2 rfl fun w h=>⟨p,h⟩
theorem spec145 {b:Addr}{s:BtS}{bs:List Nat}{n:Nat}{R w}{K:Unit->WP}(hn:s.data.n=bs.length)(hpos:1<=bs.length)(hsz:bs.length+n<4294967295)(h:Sat w (Arr b (btc s)::Buf 1 s.data (nb bs)::R))
  (k: ∀a c sp w',bs.length+n<=c->bs.length+sp.length=c->Sat w' (Arr b (btc {s with data:=⟨some a,bs.length+n,c⟩})::Arr a (nb bs++sp)::R)->K () w'):F145 (some b) (n:Int) K w:=by
 obtain⟨⟨a,dn,c⟩,mts,cnt,crd,crk,dk,dv,off,mfv⟩:=s
 dsimp only at hn h k
 subst hn
 obtain⟨ga,hga,hgr⟩:=h.mv 1
 cases a with
 |none=>
  have:=hga.1
  dsimp only at this
  omega
 |some a=>
 obtain⟨hl,sp,hsp,hga⟩:=hga
 rw[nb_len]at hsp
 dsimp only at hsp
 have h1:Sat w (Arr a (nb bs++sp)::Arr b (btc ⟨⟨some a,bs.length,c⟩,mts,cnt,crd,crk,dk,dv,off,mfv⟩)::R):=⟨ga,hga,hgr⟩
 have h0:=h1.mv 1
 clear h h1 hgr hga
 have ew:IntKind.i64.wrap ((bs.length:Int)+(n:Int))=((bs.length+n:Nat):Int):=by rw[wi64 om om];omega
 unfold F145
 have h:=h0
 simp only[mv]at h
 unfold btc at h
 refine⟨_,rfl,Ld1 h ?_⟩
 dsimp only
 rw[ew]
 refine⟨fun _ w=>Sat w (Arr a (nb bs++sp)::Arr b (btc ⟨⟨some a,bs.length,c⟩,mts,cnt,crd,crk,dk,dv,off,mfv⟩)::R),?_,?_⟩
 rotate_left
 ·refine ifd (fun hh=>absurd hh ?_) fun _=>h0.mv 1
  rw[wu64 om om];omega
 clear h h0
 intro _ w h
 refine⟨fun _ w=> ∃a c sp,bs.length+n<=c/\bs.length+sp.length=c/\Sat w (Arr b (btc ⟨⟨some a,bs.length,c⟩,mts,cnt,crd,crk,dk,dv,off,mfv⟩)::Arr a (nb bs++sp)::R),?_,?_⟩
 ·clear h
  rintro _ w ⟨a,c,sp,hc,hsp,h⟩
  unfold btc at h
  refine⟨_,rfl,Ld1 h ⟨⟨by omega,by dsimp only;omega⟩,_,rfl,St1 h rfl fun w h=>k a c sp w hc hsp ?_⟩⟩
  rw[Int.toNat_natCast]at h
  exact h
 ·have h0:=h.mv 1
  unfold btc at h
  refine⟨_,rfl,Ld1 h ?_⟩
  dsimp only
  refine ifd (fun hgt=>?_) (fun hle=>⟨a,c,sp,by omega,by omega,h0⟩)
  refine⟨_,rfl,Ld1 h ?_⟩
  have ec:IntKind.i64.wrap (2*(c:Int))=((2*c:Nat):Int):=by rw[wi64 om om];omega
  rw[ec]
  refine⟨fun m (z:Int) w=>m=(2^40-z).toNat/\1<=z/\z<=2^40/\Sat w (Arr a (nb bs++sp)::Arr b (btc ⟨⟨some a,bs.length,c⟩,mts,cnt,crd,crk,dk,dv,off,mfv⟩)::R),⟨_,rfl,by omega,by omega,h0.mv 1⟩,?_⟩
  clear h h0
  rintro m z w ⟨hm,hz1,hz2,h'⟩
  have h:=h'
  unfold btc at h
  refine ifd (fun hlt=>?_) (fun hge=>?_)
  ·have ew:IntKind.i64.wrap (z*2)=z*2:=wi64 om om
   rw[ew]
   exact⟨_,by omega,rfl,by omega,by omega,h'⟩
  refine⟨_,rfl,Ld1 h ?_⟩
  refine MakeP_run h ⟨by omega,by dsimp only;omega,by show(1:Int)*z<=_;omega,by omega⟩ fun p w h=>⟨_,rfl,Ld1 h ?_⟩
  dsimp only
  rw[zrep87]at h
  rw[Int.toNat_natCast]
  have hrd:RdS w (some a) (bs.length*1) (nb bs):=⟨by rw[nb_len,Nat.mul_one],(h.rdL .k1).left⟩
  have h2:Sat w (Arr p ([]++(nb (List.replicate bs.length 0)++nb (List.replicate (z.toNat-bs.length) 0)))::Arr a (nb bs++sp)::Arr b (btc ⟨⟨some a,bs.length,c⟩,mts,cnt,crd,crk,dk,dv,off,mfv⟩)::R):=by
   rw[List.nil_append,<-nb_app,List.replicate_append_replicate,show bs.length+(z.toNat-bs.length)=z.toNat by omega]
   exact h
  refine arrCopy (s:=si87) (d:=⟨some p,bs.length,z.toNat⟩) (x:=⟨some a,bs.length,c⟩) (new:=nb bs) h2 (fun _=>rfl) (by simp only[nb_len,List.length_replicate]) (Nat.le_refl _) (by rw[nb_len];exact(Nat.mul_one _).symm) hrd (nb_one _) fun w h=>?_
  unfold btc at h
  refine⟨_,rfl,St1 h rfl fun w h=>?_⟩
  refine⟨p,z.toNat,nb (List.replicate (z.toNat-bs.length) 0),by omega,by rw[nb_len,List.length_replicate];omega,?_⟩
  exact(h.t1.tail).mv 1
theorem btc_data {s:BtS}{a:Addr}(ha:s.data.a=some a):btc s= .slice (some a) s.data.n s.data.c::(btc s).tail:=by
 unfold btc;rw[ha];rfl
theorem drop_cons {α:Type}{l:List α}{n:Nat}(h:n<l.length):l.drop n=l[n]::l.drop (n+1):=List.drop_eq_getElem_cons h
theorem viLoop {b a:Addr}{s:BtS}{pre sp:List Value}{x0:Nat}{R w}{G:Int×Int->WP}(ha:s.data.a=some a)(hn:pre.length+(vi x0).length<=s.data.n)(hsp:(vi x0).length<=sp.length)(hc:pre.length<2^40)(hx:x0<2^32)(hdn:s.data.n<2^40)
  (h:Sat w (Arr b (btc s)::Arr a (pre++sp)::R)) (k: ∀y w',Sat w' (Arr b (btc s)::Arr a (pre++(nb (vi x0)++sp.drop (vi x0).length))::R)->G (((pre.length+(vi x0).length-1:Nat):Int),y) w'):
  Tr.Loop (fun(next24:(Int×Int)->WP) (s23:Int×Int) w=>
   (if (decide (s23.2 >= (128 : Int))) = true then ∃ p25, some b = some p25 /\ Ld (.one .sl) ((p25.add 0).add 0)
    (fun (data26 : Sl) w => (0 <= s23.1 /\ s23.1 < (data26.n : Int)) /\ (∃ e27, data26.a = some e27 /\ St (e27.add (s23.1.toNat * 1)) (.int .u8 (IntKind.u8.wrap (BitVec.ofInt IntKind.u8.bits (IntKind.u8.wrap s23.2) ||| BitVec.ofInt IntKind.u8.bits (128 : Int)).toNat))
     (fun w=>0<=(7:Int)/\next24 ((IntKind.i64.wrap (s23.1+(1:Int))),((s23.2).fdiv (2^(min 7 IntKind.u32.bits)))) w) w)) w
   else∃p28,some b=some p28/\Ld (.one .sl) ((p28.add 0).add 0)
    (fun (data29 : Sl) w => (0 <= s23.1 /\ s23.1 < (data29.n : Int)) /\ (∃ e30, data29.a = some e30 /\ St (e30.add (s23.1.toNat * 1)) (.int .u8 (IntKind.u8.wrap s23.2))
     (fun w=>G s23 w) w)) w)) ((pre.length:Int),(x0:Int)) w:=by
 refine⟨fun m (z:Int×Int) w=> ∃(done:List Nat) (x:Nat),z=(((pre.length+done.length:Nat):Int),(x:Int))/\vi x0=done++vi x/\m=x/\Sat w (Arr b (btc s)::Arr a ((pre++nb done)++sp.drop done.length)::R),⟨_,[],x0,rfl,rfl,rfl,by rw[show pre++nb []=pre from List.append_nil _];exact h⟩,?_⟩
 clear h
 rintro m z w ⟨done,x,rfl,hv,hm,h'⟩
 have hl:(vi x0).length=done.length+(vi x).length:=by rw[hv,List.length_append]
 have hp:=vi_pos x
 have h:=h'
 rw[btc_data ha]at h
 have hd:sp.drop done.length=sp[done.length]'om::sp.drop (done.length+1):=drop_cons om
 have hpl:(pre++nb done).length=pre.length+done.length:=by rw[List.length_append,nb_len]
 dsimp only
 refine ifd (fun hge=>?_) (fun hlt=>?_)
 ·have hge': ¬x<128:=by omega
  refine⟨_,rfl,Ld1 h ⟨⟨by omega,by dsimp only;omega⟩,a,rfl,?_⟩⟩
  rw[hd]at h'
  rw[Int.toNat_natCast,vi_or,fdiv7 (by decide)]
  refine arrSt (h'.mv 1) hpl.symm rfl fun w h=>⟨by omega,?_⟩
  have ew:IntKind.i64.wrap (((pre.length+done.length:Nat):Int)+1)=((pre.length+(done++[x%128+128]).length:Nat):Int):=by rw[List.length_append,List.length_singleton,w1 om];omega
  rw[ew]
  refine⟨x/128,by omega,done++[x%128+128],x/128,rfl,?_,rfl,?_⟩
  ·rw[hv,vi_ge hge',List.append_assoc];rfl
  ·have e:(pre++nb (done++[x%128+128]))++sp.drop (done++[x%128+128]).length=(pre++nb done)++ .int .u8 ((x%128+128:Nat):Int)::sp.drop (done.length+1):=by
    rw[nb_app,<-List.append_assoc,List.length_append,List.append_assoc];rfl
   rw[e]
   exact h.mv 1
 ·have hlt':x<128:=by omega
  have hvx:=vi_lt hlt'
  refine⟨_,rfl,Ld1 h ⟨⟨by omega,by dsimp only;omega⟩,a,rfl,?_⟩⟩
  rw[hd]at h'
  rw[Int.toNat_natCast]
  have ew:IntKind.u8.wrap (x:Int)=(x:Int):=wu8 om om
  rw[ew]
  refine arrSt (h'.mv 1) hpl.symm rfl fun w h=>?_
  have hl1:(vi x0).length=done.length+1:=by rw[hl,hvx];rfl
  have e1:((pre.length+done.length:Nat):Int)=((pre.length+(vi x0).length-1:Nat):Int):=by omega
  rw[e1]
  refine k _ w ?_
  have e:pre++(nb (vi x0)++sp.drop (vi x0).length)=(pre++nb done)++ .int .u8 ((x:Nat):Int)::sp.drop (done.length+1):=by
   rw[hl1,hv,hvx,nb_app,List.append_assoc,List.append_assoc];rfl
  rw[e]
  exact h.mv 1
def z12 :List Nat:=List.replicate 12 0
def hdr (bs:List Nat):List Nat:=if bs=[]then z12 else bs
theorem hdrJ {b:Addr}{s:BtS}{bs:List Nat}{size:Int}{R w}{J:Unit->WP}(hs:s.data=⟨none,0,0⟩/\bs=[]\/s.data.n=bs.length/\12<=bs.length)(h0:0<=size)(h1:size<=2^40)(h:Sat w (Arr b (btc s)::Buf 1 s.data (nb bs)::R))
  (k: ∀d w',d.n=(hdr bs).length->Sat w' (Arr b (btc {s with data:=d})::Buf 1 d (nb (hdr bs))::R)->J () w'):
  ∃p48,some b=some p48/\Ld (.one .sl) ((p48.add 0).add 0) (fun(data49:Sl) w=>(if((data49.n:Int)==(0:Int))=true then CallF Tryz.prog 127 [.pointer (some b),.int .i64 size] [] (fun(r50:Unit) w=>J () w) w else J () w)) w:=by
 have h':=h
 unfold btc at h
 refine⟨_,rfl,Ld1 h ?_⟩
 dsimp only
 refine ife (fun he=>?_) (fun he=>?_)
 ·rcases hs with⟨hd,hb⟩|⟨hn,hb⟩
  ·subst hb
   have h2:Sat w (Arr b (btc s)::R):=h'.t1.tail
   refine call127 (spec127 hd h0 h1 h2 fun a c w h=>k ⟨some a,12,c⟩ w rfl h)
  ·omega
 ·rcases hs with⟨hd,hb⟩|⟨hn,hb⟩
  ·rw[hd]at he;exact absurd rfl he
  ·have e:hdr bs=bs:=by unfold hdr;rw[if_neg];intro hb';rw[hb']at hb;simp at hb
   exact k s.data w (by rw[e];exact hn) (by rw[e];exact h')
theorem hdr_len {bs:List Nat}(h:bs=[]\/12<=bs.length):12<=(hdr bs).length/\(hdr bs).length<=bs.length+12:=by
 unfold hdr
 split
 ·rename_i e;rw[e];exact⟨Nat.le_refl _,Nat.le_refl _⟩
 ·rename_i e
  rcases h with h|h
  ·exact absurd h e
  ·omega
theorem subA {a:Addr}{l h m:Nat}(hne:m≠l):(sub (some a) 1 l h m).a=some (a.add l):=by
 unfold sub
 rw[if_neg hne,Nat.mul_one];rfl
theorem bufOf {a:Addr}{n c:Nat}{cs sp:List Value}{L w}(h1:cs.length=n)(h2:n+sp.length=c)(h:Sat w (Arr a (cs++sp)::L)):Sat w (Buf 1 ⟨some a,n,c⟩ cs::L):=
 h.cons fun g hg=>⟨by rw[h1,Nat.mul_one],sp,by dsimp only;omega,hg⟩
set_option maxHeartbeats 2000000 in
theorem spec143 {b:Addr}{s:BtS}{bs:List Nat}{kl vl kind:Nat}{R w}{K:Unit->WP}(hs:s.data=⟨none,0,0⟩/\bs=[]\/s.data.n=bs.length/\12<=bs.length)(hk:kl<2^28)(hv:vl<2^28)(hsz:bs.length+kl+vl+64<4294967295)(hcnt:s.cnt<2^32)
  (h:Sat w (Arr b (btc s)::Buf 1 s.data (nb bs)::R))
  (k : ∀ a c mts j1 j2 post o1 o2 w', j1.length = kl -> j2.length = vl -> o1 = (hdr bs).length + 1 + (vi kl).length -> o2 = o1 + kl + (vi vl).length -> o2 + vl + post.length = c -> 1 <= post.length ->
   Sat w' (Arr b (btc {s with data:=⟨some a,o2+vl,c⟩,cnt:=s.cnt+1,mts:=mts,off:=(hdr bs).length,dk:=⟨some (a.add o1),kl,c-o1⟩,dv:=⟨some (a.add o2),vl,c-o2⟩})::
    Arr a (nb (hdr bs++kind::vi kl)++(j1++(nb (vi vl)++(j2++post))))::R)->K () w'):F143 (some b) (kl:Int) (vl:Int) (kind:Int) K w:=by
 have hh:=hdr_len (bs:=bs) (by rcases hs with h|h;exact .inl h.2;exact .inr h.2)
 unfold F143
 refine⟨fun _ w=>Sat w (Arr b (btc s)::Buf 1 s.data (nb bs)::R),?_,?_⟩
 rotate_left
 ·have h':=h
  unfold btc at h
  refine⟨_,rfl,Ld1 h ?_⟩
  exact ifb (fun hh=>nomatch hh) fun _=>h'
 clear h
 intro _ w h
 refine⟨fun _ w=> ∃d,d.n=(hdr bs).length/\Sat w (Arr b (btc {s with data:=d})::Buf 1 d (nb (hdr bs))::R),?_,?_⟩
 rotate_left
 ·have ew:IntKind.i64.wrap ((IntKind.i64.wrap ((IntKind.i64.wrap ((kl:Int)+(vl:Int)))+(20:Int)))+(12:Int))=((kl+vl+32:Nat):Int):=by
   rw[wi64 (x:=(kl:Int)+vl) om om,wi64 (x:=(kl:Int)+vl+20) om om,wi64 om om];omega
  rw[ew]
  exact hdrJ (J:=fun _ w=> ∃d,d.n=(hdr bs).length/\Sat w (Arr b (btc {s with data:=d})::Buf 1 d (nb (hdr bs))::R)) (size:=((kl+vl+32:Nat):Int)) hs om om h fun d w hd h=>⟨d,hd,h⟩
 clear h
 rintro _ w ⟨d,hd,h⟩
 generalize hB:hdr bs=B at*
 unfold btc at h
 refine⟨_,rfl,Ld1 h ⟨_,rfl,St1 h rfl fun w h=>⟨_,rfl,Ld1 h (call144 ?_)⟩⟩⟩
 unfold F144
 generalize IntKind.u64.wrap ((IntKind.u64.wrap ((IntKind.u64.wrap ((184:Int)+(IntKind.u64.wrap (IntKind.u32.wrap ((IntKind.u32.wrap (kl:Int))+(8:Int))))))+(IntKind.u64.wrap (IntKind.u32.wrap (vl:Int)))))+(3:Int))=r14
 refine⟨LdAt1 h,_,rfl,St1 h rfl fun w h=>⟨_,rfl,Ld1 h ⟨_,rfl,St1 h rfl fun w h=>?_⟩⟩⟩
 dsimp only at h|-
 generalize IntKind.u64.wrap (s.mts+r14)=mts at h|-
 have e1:IntKind.u64.wrap ((s.cnt:Int)+1)=((s.cnt+1:Nat):Int):=by rw[wu64 om om];omega
 have e2:IntKind.u32.wrap (d.n:Int)=(B.length:Int):=by rw[hd,wu32 om om]
 have e3:IntKind.i64.wrap ((IntKind.i64.wrap ((11:Int)+(kl:Int)))+(vl:Int))=((11+kl+vl:Nat):Int):=by
  rw[wi64 (x:=(11:Int)+kl) om om,wi64 om om];omega
 rw[e1,e2]at h
 rw[e3]
 have h2:Sat w (Arr b (btc {s with data:=d,cnt:=s.cnt+1,mts:=mts,off:=B.length})::Buf 1 d (nb B)::R):=h
 clear h
 refine call145 (spec145 (s:={s with data:=d,cnt:=s.cnt+1,mts:=mts,off:=B.length}) hd om om h2 fun a c sp w hc hsp h=>?_)
 clear h2
 dsimp only at h
 have h':=h
 unfold btc at h
 rw[hd]
 refine⟨_,rfl,Ld1 h ⟨⟨by omega,by dsimp only;omega⟩,a,rfl,?_⟩⟩
 obtain⟨y,sp1,rfl⟩: ∃y sp1,sp=y::sp1:=by
  cases sp with
  |nil=>simp at hsp;omega
  |cons y sp1=>exact⟨y,sp1,rfl⟩
 rw[List.length_cons]at hsp
 refine arrSt (h'.mv 1) (nb_len _).symm rfl fun w h3=>?_
 clear h h'
 have h3:=h3.mv 1
 simp only[mv]at h3
 have e4:IntKind.i64.wrap ((B.length:Int)+1)=((nb B++[Value.int .u8 (kind:Int)]).length:Int):=by
  rw[w1 om,List.length_append,nb_len];rfl
 have e5:IntKind.u32.wrap (kl:Int)=(kl:Int):=wu32 om om
 have e6:IntKind.u32.wrap (vl:Int)=(vl:Int):=wu32 om om
 rw[e4,e5]
 have hv4:=vi_len4 hk
 have hw4:=vi_len4 hv
 have hl4:(nb B++[Value.int .u8 (kind:Int)]).length=B.length+1:=by rw[List.length_append,nb_len];rfl
 rw[List.append_cons]at h3
 refine viLoop (a:=a) (s:={s with data:=⟨some a,B.length+(11+kl+vl),c⟩,cnt:=s.cnt+1,mts:=mts,off:=B.length}) rfl (by dsimp only;omega) om om om (by dsimp only;omega) h3 fun y2 w h=>?_
 clear h3
 rw[hl4]
 generalize ho1:B.length+1+(vi kl).length=o1 at h|-
 have f1:IntKind.i64.wrap (((o1-1:Nat):Int)+1)=(o1:Int):=by rw[w1 om];omega
 have f2:IntKind.i64.wrap ((o1:Int)+(kl:Int))=((o1+kl:Nat):Int):=by rw[wi64 om om];omega
 rw[f1,f2]
 rw[Int.toNat_natCast,Int.toNat_natCast]
 unfold btc at h
 refine⟨_,rfl,Ld1 h ⟨⟨by omega,by omega,by dsimp only;omega⟩,_,rfl,St1 h rfl fun w h=>?_⟩⟩
 dsimp only at h
 rw[subA om,show o1+kl-o1=kl by omega]at h
 obtain⟨j1,sp3,hj1,hsp3⟩: ∃j1 sp3,sp1.drop (vi kl).length=j1++sp3/\j1.length=kl:=⟨(sp1.drop (vi kl).length).take kl,(sp1.drop (vi kl).length).drop kl,(List.take_append_drop _ _).symm,by rw[List.length_take,List.length_drop];omega⟩
 have hl3:sp3.length+kl+(vi kl).length=sp1.length:=by
  have:=congrArg List.length hj1
  rw[List.length_drop,List.length_append]at this;omega
 rw[hj1]at h
 have h3:Sat w (Arr b (btc {s with data:=⟨some a,B.length+(11+kl+vl),c⟩,cnt:=s.cnt+1,mts:=mts,off:=B.length,dk:=⟨some (a.add o1),kl,c-o1⟩})::Arr a ((nb B++[Value.int .u8 (kind:Int)]++(nb (vi kl)++j1))++sp3)::R):=by
  rw[show(nb B++[Value.int .u8 (kind:Int)]++(nb (vi kl)++j1))++sp3=nb B++[Value.int .u8 (kind:Int)]++(nb (vi kl)++(j1++sp3)) by simp only[List.append_assoc]]
  exact h
 clear h
 have hl5:(nb B++[Value.int .u8 (kind:Int)]++(nb (vi kl)++j1)).length=o1+kl:=by rw[List.length_append,hl4,List.length_append,nb_len];omega
 rw[e6,show((o1+kl:Nat):Int)=((nb B++[Value.int .u8 (kind:Int)]++(nb (vi kl)++j1)).length:Int) by rw[hl5]]
 refine viLoop (a:=a) (s:={s with data:=⟨some a,B.length+(11+kl+vl),c⟩,cnt:=s.cnt+1,mts:=mts,off:=B.length,dk:=⟨some (a.add o1),kl,c-o1⟩}) rfl (by dsimp only;omega) om om om (by dsimp only;omega) h3 fun y3 w h=>?_
 clear h3
 rw[hl5]
 generalize ho2:o1+kl+(vi vl).length=o2 at h|-
 have f3:IntKind.i64.wrap (((o2-1:Nat):Int)+1)=(o2:Int):=by rw[w1 om];omega
 have f4:IntKind.i64.wrap ((o2:Int)+(vl:Int))=((o2+vl:Nat):Int):=by rw[wi64 om om];omega
 rw[f3,f4]
 rw[Int.toNat_natCast,Int.toNat_natCast]
 unfold btc at h
 refine⟨_,rfl,Ld1 h ⟨⟨by omega,by omega,by dsimp only;omega⟩,_,rfl,St1 h rfl fun w h=>⟨_,rfl,Ld1 h ⟨⟨by omega,by dsimp only;omega⟩,_,rfl,St1 h rfl fun w h=>?_⟩⟩⟩⟩
 dsimp only at h
 rw[subA om,show o2+vl-o2=vl by omega]at h
 obtain⟨j2,post,hj2,hpost⟩: ∃j2 post,sp3.drop (vi vl).length=j2++post/\j2.length=vl:=⟨(sp3.drop (vi vl).length).take vl,(sp3.drop (vi vl).length).drop vl,(List.take_append_drop _ _).symm,by rw[List.length_take,List.length_drop];omega⟩
 have hl6:post.length+vl+(vi vl).length=sp3.length:=by
  have:=congrArg List.length hj2
  rw[List.length_drop,List.length_append]at this;omega
 rw[hj2]at h
 refine k a c mts j1 j2 post o1 o2 w hsp3 hpost ho1.symm ho2.symm om om ?_
 have e9:nb (B++kind::vi kl)++(j1++(nb (vi vl)++(j2++post)))=(nb B++[Value.int .u8 (kind:Int)]++(nb (vi kl)++j1))++(nb (vi vl)++(j2++post)):=by
  rw[nb_app]
  simp only[List.append_assoc]
  rfl
 rw[e9]
 exact h
set_option maxHeartbeats 2000000 in
theorem spec116 {b:Addr}{s:BtS}{bs:List Nat}{kl kind:Nat}{R w}{K:Unit->WP}(hs:s.data=⟨none,0,0⟩/\bs=[]\/s.data.n=bs.length/\12<=bs.length)(hk:kl<2^28)(hsz:bs.length+kl+64<4294967295)(hcnt:s.cnt<2^32)
  (h:Sat w (Arr b (btc s)::Buf 1 s.data (nb bs)::R))
  (k : ∀ a c mts j1 post o1 w', j1.length = kl -> o1 = (hdr bs).length + 1 + (vi kl).length -> o1 + kl + post.length = c ->
   Sat w' (Arr b (btc {s with data:=⟨some a,o1+kl,c⟩,cnt:=s.cnt+1,mts:=mts,off:=(hdr bs).length,dk:=⟨some (a.add o1),kl,c-o1⟩,dv:=⟨none,0,0⟩})::
    Arr a (nb (hdr bs++kind::vi kl)++(j1++post))::R)->K () w'):F116 (some b) (kl:Int) (kind:Int) K w:=by
 have hh:=hdr_len (bs:=bs) (by rcases hs with h|h;exact .inl h.2;exact .inr h.2)
 unfold F116
 refine⟨fun _ w=>Sat w (Arr b (btc s)::Buf 1 s.data (nb bs)::R),?_,?_⟩
 rotate_left
 ·have h':=h
  unfold btc at h
  refine⟨_,rfl,Ld1 h ?_⟩
  exact ifb (fun hh=>nomatch hh) fun _=>h'
 clear h
 intro _ w h
 refine⟨fun _ w=> ∃d,d.n=(hdr bs).length/\Sat w (Arr b (btc {s with data:=d})::Buf 1 d (nb (hdr bs))::R),?_,?_⟩
 rotate_left
 ·have ew:IntKind.i64.wrap ((IntKind.i64.wrap ((kl:Int)+(10:Int)))+(12:Int))=((kl+22:Nat):Int):=by
   rw[wi64 (x:=(kl:Int)+10) om om,wi64 om om];omega
  rw[ew]
  exact hdrJ (J:=fun _ w=> ∃d,d.n=(hdr bs).length/\Sat w (Arr b (btc {s with data:=d})::Buf 1 d (nb (hdr bs))::R)) (size:=((kl+22:Nat):Int)) hs om om h fun d w hd h=>⟨d,hd,h⟩
 clear h
 rintro _ w ⟨d,hd,h⟩
 generalize hB:hdr bs=B at*
 unfold btc at h
 refine⟨_,rfl,Ld1 h ⟨_,rfl,St1 h rfl fun w h=>⟨_,rfl,Ld1 h (call144 ?_)⟩⟩⟩
 unfold F144
 generalize IntKind.u64.wrap ((IntKind.u64.wrap ((IntKind.u64.wrap ((184:Int)+(IntKind.u64.wrap (IntKind.u32.wrap ((IntKind.u32.wrap (kl:Int))+(8:Int))))))+(IntKind.u64.wrap (IntKind.u32.wrap (0:Int)))))+(3:Int))=r14
 refine⟨LdAt1 h,_,rfl,St1 h rfl fun w h=>⟨_,rfl,Ld1 h ⟨_,rfl,St1 h rfl fun w h=>?_⟩⟩⟩
 dsimp only at h|-
 generalize IntKind.u64.wrap (s.mts+r14)=mts at h|-
 have e1:IntKind.u64.wrap ((s.cnt:Int)+1)=((s.cnt+1:Nat):Int):=by rw[wu64 om om];omega
 have e2:IntKind.u32.wrap (d.n:Int)=(B.length:Int):=by rw[hd,wu32 om om]
 have e3:IntKind.i64.wrap ((6:Int)+(kl:Int))=((6+kl:Nat):Int):=by rw[wi64 om om];omega
 rw[e1,e2]at h
 rw[e3]
 have h2:Sat w (Arr b (btc {s with data:=d,cnt:=s.cnt+1,mts:=mts,off:=B.length})::Buf 1 d (nb B)::R):=h
 clear h
 refine call145 (spec145 (s:={s with data:=d,cnt:=s.cnt+1,mts:=mts,off:=B.length}) hd om om h2 fun a c sp w hc hsp h=>?_)
 clear h2
 dsimp only at h
 have h':=h
 unfold btc at h
 rw[hd]
 refine⟨_,rfl,Ld1 h ⟨⟨by omega,by dsimp only;omega⟩,a,rfl,?_⟩⟩
 obtain⟨y,sp1,rfl⟩: ∃y sp1,sp=y::sp1:=by
  cases sp with
  |nil=>simp at hsp;omega
  |cons y sp1=>exact⟨y,sp1,rfl⟩
 rw[List.length_cons]at hsp
 refine arrSt (h'.mv 1) (nb_len _).symm rfl fun w h3=>?_
 clear h h'
 have h3:=h3.mv 1
 simp only[mv]at h3
 have e4:IntKind.i64.wrap ((B.length:Int)+1)=((nb B++[Value.int .u8 (kind:Int)]).length:Int):=by
  rw[w1 om,List.length_append,nb_len];rfl
 have e5:IntKind.u32.wrap (kl:Int)=(kl:Int):=wu32 om om
 rw[e4,e5]
 have hv4:=vi_len4 hk
 have hl4:(nb B++[Value.int .u8 (kind:Int)]).length=B.length+1:=by rw[List.length_append,nb_len];rfl
 rw[List.append_cons]at h3
 refine viLoop (a:=a) (s:={s with data:=⟨some a,B.length+(6+kl),c⟩,cnt:=s.cnt+1,mts:=mts,off:=B.length}) rfl (by dsimp only;omega) om om om (by dsimp only;omega) h3 fun y2 w h=>?_
 clear h3
 rw[hl4]
 generalize ho1:B.length+1+(vi kl).length=o1 at h|-
 have f1:IntKind.i64.wrap (((o1-1:Nat):Int)+1)=(o1:Int):=by rw[w1 om];omega
 have f2:IntKind.i64.wrap ((o1:Int)+(kl:Int))=((o1+kl:Nat):Int):=by rw[wi64 om om];omega
 rw[f1,f2]
 rw[Int.toNat_natCast,Int.toNat_natCast]
 unfold btc at h
 refine⟨_,rfl,Ld1 h ⟨⟨by omega,by omega,by dsimp only;omega⟩,_,rfl,St1 h rfl fun w h=>⟨_,rfl,St1 h rfl fun w h=>⟨_,rfl,Ld1 h ⟨⟨by omega,by dsimp only;omega⟩,_,rfl,St1 h rfl fun w h=>?_⟩⟩⟩⟩⟩
 dsimp only at h
 rw[subA om,show o1+kl-o1=kl by omega]at h
 obtain⟨j1,post,hj1,hpost⟩: ∃j1 post,sp1.drop (vi kl).length=j1++post/\j1.length=kl:=⟨(sp1.drop (vi kl).length).take kl,(sp1.drop (vi kl).length).drop kl,(List.take_append_drop _ _).symm,by rw[List.length_take,List.length_drop];omega⟩
 have hl3:post.length+kl+(vi kl).length=sp1.length:=by
  have:=congrArg List.length hj1
  rw[List.length_drop,List.length_append]at this;omega
 rw[hj1]at h
 refine k a c mts j1 post o1 w hpost ho1.symm om ?_
 have e9:nb (B++kind::vi kl)++(j1++post)=nb B++[Value.int .u8 (kind:Int)]++(nb (vi kl)++(j1++post)):=by
  rw[nb_app]
  simp only[List.append_assoc]
  rfl
 rw[e9]
 exact h
def BtSat (b:Addr)(bs:List Nat)(cnt:Nat)(R:List Chunk)(w:World):Prop:=
 ∃s:BtS,(s.data=⟨none,0,0⟩/\bs=[]\/s.data.n=bs.length/\12<=bs.length)/\s.cnt=cnt/\Sat w (Arr b (btc s)::Buf 1 s.data (nb bs)::R)
theorem BtSat.hb {b:Addr}{bs:List Nat}{cnt:Nat}{R w}(h:BtSat b bs cnt R w):bs=[]\/12<=bs.length:=by
 obtain⟨s,hs,_⟩:=h
 rcases hs with h|h
 ·exact .inl h.2
 ·exact .inr h.2
def recK (kind:Nat)(k:List Nat):List Nat:=kind::(vi k.length++k)
def recKV (kind:Nat)(k v:List Nat):List Nat:=kind::(vi k.length++(k++(vi v.length++v)))
theorem recK_len (kind:Nat)(k:List Nat):(recK kind k).length=1+(vi k.length).length+k.length:=by unfold recK;rw[List.length_cons,List.length_append];omega
theorem recKV_len (kind:Nat)(k v:List Nat):(recKV kind k v).length=1+(vi k.length).length+k.length+(vi v.length).length+v.length:=by
 unfold recKV;rw[List.length_cons,List.length_append,List.length_append,List.length_append];omega
theorem doneK {b a:Addr}{s:BtS}{bs:List Nat}{kind:Nat}{kb:ByteArray}{j1 post:List Value}{c o1:Nat}{key:Sl}{R w w1}{K:Int->WP}(hn:key.n=kb.size)(hj:j1.length=kb.size)(ho:o1=bs.length+1+(vi kb.size).length)(hc:o1+kb.size+post.length=c)(hd:s.data=⟨some a,o1+kb.size,c⟩)(h12:12<=bs.length)
  (hr:RdB w1 key.a key.n kb) [Near w w1] (h:Sat w (Arr b (btc s)::Arr a (nb (bs++kind::vi kb.size)++(j1++post))::R))
  (k: ∀w',BtSat b (bs++recK kind (bl kb)) s.cnt R w'->K (key.n:Int) w'):CopyP si87 ⟨some (a.add o1),kb.size,c-o1⟩ key K w1:=by
 have e1:(nb (bs++kind::vi kb.size)).length=o1:=by rw[nb_len,List.length_append,List.length_cons];omega
 refine arrCopy (s:=si87) (x:=key) (new:=nb (bl kb)) (h.mv 1) (fun _=>by rw[e1]) (by rw[nb_len,bl_len,hj]) (Nat.le_of_eq hn) (by rw[nb_len,bl_len,hn];exact(Nat.mul_one _).symm) (by rw[<-bytesOf_bl];exact hr.rdS) (nb_one _) fun w h=>k w ⟨s,.inr ⟨?_,?_⟩,rfl,?_⟩
 ·rw[hd,List.length_append,recK_len,bl_len];dsimp only;omega
 ·rw[List.length_append];omega
 ·rw[hd]
  have e:nb (bs++kind::vi kb.size)++(nb (bl kb)++post)=nb (bs++recK kind (bl kb))++post:=by
   unfold recK
   rw[bl_len,<-List.append_assoc,<-nb_app]
   congr 2
   simp
  rw[e]at h
  exact(bufOf (by rw[nb_len,List.length_append,recK_len,bl_len];omega) hc h).mv 1
theorem doneKV1 {b a:Addr}{s:BtS}{bs:List Nat}{kind vl:Nat}{kb:ByteArray}{j1 j2 post:List Value}{c o1:Nat}{key:Sl}{R w w1}{K:Int->WP}(hn:key.n=kb.size)(hj:j1.length=kb.size)(ho:o1=bs.length+1+(vi kb.size).length)
  (hr:RdB w1 key.a key.n kb) [Near w w1] (h:Sat w (Arr b (btc s)::Arr a (nb (bs++kind::vi kb.size)++(j1++(nb (vi vl)++(j2++post))))::R))
  (k: ∀w',Sat w' (Arr b (btc s)::Arr a (nb (bs++kind::(vi kb.size++(bl kb++vi vl)))++(j2++post))::R)->K (key.n:Int) w'):CopyP si87 ⟨some (a.add o1),kb.size,c-o1⟩ key K w1:=by
 have e1:(nb (bs++kind::vi kb.size)).length=o1:=by rw[nb_len,List.length_append,List.length_cons];omega
 refine arrCopy (s:=si87) (x:=key) (new:=nb (bl kb)) (h.mv 1) (fun _=>by rw[e1]) (by rw[nb_len,bl_len,hj]) (Nat.le_of_eq hn) (by rw[nb_len,bl_len,hn];exact(Nat.mul_one _).symm) (by rw[<-bytesOf_bl];exact hr.rdS) (nb_one _) fun w h=>k w ?_
 have e:nb (bs++kind::vi kb.size)++(nb (bl kb)++(nb (vi vl)++(j2++post)))=nb (bs++kind::(vi kb.size++(bl kb++vi vl)))++(j2++post):=by
  rw[<-List.append_assoc,<-List.append_assoc,<-nb_app,<-nb_app]
  congr 2
  simp
 rw[e]at h
 exact h.mv 1
theorem doneKV2 {b a:Addr}{s:BtS}{bs:List Nat}{kind:Nat}{kb:ByteArray}{v:List Nat}{post:List Value}{c o1 o2:Nat}{R w}(ho:o1=bs.length+1+(vi kb.size).length)(ho2:o2=o1+kb.size+(vi v.length).length)(hc:o2+v.length+post.length=c)(hd:s.data=⟨some a,o2+v.length,c⟩)(h12:12<=bs.length)
  (h:Sat w (Arr b (btc s)::Arr a (nb (bs++kind::(vi kb.size++(bl kb++vi v.length)))++(nb v++post))::R)):BtSat b (bs++recKV kind (bl kb) v) s.cnt R w:=by
 refine⟨s,.inr ⟨?_,?_⟩,rfl,?_⟩
 ·rw[hd,List.length_append,recKV_len,bl_len];dsimp only;omega
 ·rw[List.length_append];omega
 ·rw[hd]
  have e:nb (bs++kind::(vi kb.size++(bl kb++vi v.length)))++(nb v++post)=nb (bs++recKV kind (bl kb) v)++post:=by
   unfold recKV
   rw[bl_len,<-List.append_assoc,<-nb_app]
   congr 2
   simp
  rw[e]at h
  exact((bufOf (by rw[nb_len,List.length_append,recKV_len,bl_len];omega) hc (h.mv 1))).mv 1
theorem spec75 {b:Addr}{bs:List Nat}{cnt:Nat}{kb:ByteArray}{key:Sl}{x3:Option Addr}{R w}{K:IV->WP}(hn:key.n=kb.size)(hz:kb.size<2^28)(hsz:bs.length+kb.size+64<4294967295)(hcnt:cnt<2^32)(hr: ∀w,Sat w R->RdB w key.a key.n kb)
  (h:BtSat b bs cnt R w) (k: ∀w',BtSat b (hdr bs++recK 0 (bl kb)) (cnt+1) R w'->K .nil w'):F75 (some b) key x3 K w:=by
 have hh:=hdr_len h.hb
 obtain⟨s,hs,rfl,h⟩:=h
 unfold F75
 refine call112 ?_
 unfold F112
 rw[hn]
 refine call116 (spec116 (kind:=0) hs hz hsz hcnt h fun a c mts j1 post o1 w hj ho hc h=>?_)
 unfold btc at h
 refine⟨_,rfl,Ld1 h ⟨_,rfl,St1 h rfl fun w h=>⟨_,rfl,_,rfl,Ld1 h ?_⟩⟩⟩
 dsimp only
 refine doneK (s:={s with data:=⟨some a,o1+kb.size,c⟩,cnt:=s.cnt+1,mts:=mts,off:=(hdr bs).length,dk:=⟨some (a.add o1),kb.size,c-o1⟩,dv:=⟨none,0,0⟩}) (w:=w) hn hj ho hc rfl hh.1 (hr _ (h.near).tail.tail) h fun w h=>?_
 obtain⟨s',hs',e',h⟩:=h
 have h':=h
 unfold btc at h
 refine⟨_,rfl,Ld1 h ?_⟩
 exact ifNNone (decI_nil (k _ ⟨s',hs',e',h'.near⟩))
theorem spec79 {b:Addr}{bs:List Nat}{cnt:Nat}{kb:ByteArray}{key:Sl}{x3:Option Addr}{R w}{K:IV->WP}(hn:key.n=kb.size)(hz:kb.size<2^28)(hsz:bs.length+kb.size+64<4294967295)(hcnt:cnt<2^32)(hr: ∀w,Sat w R->RdB w key.a key.n kb)
  (h:BtSat b bs cnt R w) (k: ∀w',BtSat b (hdr bs++recK 7 (bl kb)) (cnt+1) R w'->K .nil w'):F79 (some b) key x3 K w:=by
 have hh:=hdr_len h.hb
 obtain⟨s,hs,rfl,h⟩:=h
 unfold F79
 refine call117 ?_
 unfold F117
 rw[hn]
 refine call116 (spec116 (kind:=7) hs hz hsz hcnt h fun a c mts j1 post o1 w hj ho hc h=>?_)
 unfold btc at h
 refine⟨_,rfl,Ld1 h ⟨_,rfl,St1 h rfl fun w h=>⟨_,rfl,_,rfl,Ld1 h ?_⟩⟩⟩
 dsimp only
 refine doneK (s:={s with data:=⟨some a,o1+kb.size,c⟩,cnt:=s.cnt+1,mts:=mts,off:=(hdr bs).length,dk:=⟨some (a.add o1),kb.size,c-o1⟩,dv:=⟨none,0,0⟩}) (w:=w) hn hj ho hc rfl hh.1 (hr _ (h.near).tail.tail) h fun w h=>?_
 obtain⟨s',hs',e',h⟩:=h
 have h':=h
 unfold btc at h
 refine⟨_,rfl,Ld1 h ?_⟩
 exact ifNNone (decI_nil (k _ ⟨s',hs',e',h'.near⟩))
theorem spec76 {b:Addr}{bs:List Nat}{cnt:Nat}{kb vb:ByteArray}{key val:Sl}{x3:Option Addr}{R w}{K:IV->WP}(hn:key.n=kb.size)(hvn:val.n=vb.size)(hz:kb.size<2^28)(hvz:vb.size<2^28)(hsz:bs.length+kb.size+vb.size+64<4294967295)(hcnt:cnt<2^32)(hr: ∀w,Sat w R->RdB w key.a key.n kb)(hvr: ∀w,Sat w R->RdB w val.a val.n vb)
  (h:BtSat b bs cnt R w) (k: ∀w',BtSat b (hdr bs++recKV 1 (bl kb) (bl vb)) (cnt+1) R w'->K .nil w'):F76 (some b) key val x3 K w:=by
 have hh:=hdr_len h.hb
 obtain⟨s,hs,rfl,h⟩:=h
 unfold F76
 refine call114 ?_
 unfold F114
 rw[hn,hvn]
 refine call143 (spec143 (kind:=1) hs hz hvz hsz hcnt h fun a c mts j1 j2 post o1 o2 w hj hj2 ho ho2 hc _ h=>?_)
 unfold btc at h
 refine⟨_,rfl,Ld1 h ⟨_,rfl,St1 h rfl fun w h=>⟨_,rfl,_,rfl,Ld1 h ?_⟩⟩⟩
 dsimp only
 refine doneKV1 (s:={s with data:=⟨some a,o2+vb.size,c⟩,cnt:=s.cnt+1,mts:=mts,off:=(hdr bs).length,dk:=⟨some (a.add o1),kb.size,c-o1⟩,dv:=⟨some (a.add o2),vb.size,c-o2⟩}) (w:=w) hn hj ho (hr _ (h.near).tail.tail) h fun w h=>?_
 unfold btc at h
 refine⟨_,rfl,Ld1 h ?_⟩
 dsimp only
 have e1:(nb (hdr bs++1::(vi kb.size++(bl kb++vi vb.size)))).length=o2:=by rw[nb_len,List.length_append,List.length_cons,List.length_append,List.length_append,bl_len];omega
 refine arrCopy (s:=si87) (x:=val) (d:=⟨some (a.add o2),vb.size,c-o2⟩) (new:=nb (bl vb)) (h.mv 1) (fun _=>by rw[e1]) (by rw[nb_len,bl_len,hj2]) (Nat.le_of_eq hvn) (by rw[nb_len,bl_len,hvn];exact(Nat.mul_one _).symm) (by rw[<-bytesOf_bl];exact(hvr _ (h.near).tail.tail).rdS) (nb_one _) fun w h=>?_
 obtain⟨s',hs',e',h⟩:=doneKV2 (kb:=kb) (v:=bl vb) (s:={s with data:=⟨some a,o2+vb.size,c⟩,cnt:=s.cnt+1,mts:=mts,off:=(hdr bs).length,dk:=⟨some (a.add o1),kb.size,c-o1⟩,dv:=⟨some (a.add o2),vb.size,c-o2⟩}) (kind:=1) (o2:=o2) (c:=c) ho (by rw[bl_len];exact ho2) (by rw[bl_len];exact hc) (by rw[bl_len]) hh.1 (by rw[bl_len];exact h.mv 1)
 have h':=h
 unfold btc at h
 refine⟨_,rfl,Ld1 h ?_⟩
 exact ifNNone (decI_nil (k _ ⟨s',hs',e',h'.near⟩))
theorem spec77 {b:Addr}{bs:List Nat}{cnt:Nat}{kb vb:ByteArray}{key val:Sl}{x3:Option Addr}{R w}{K:IV->WP}(hn:key.n=kb.size)(hvn:val.n=vb.size)(hz:kb.size<2^28)(hvz:vb.size<2^28)(hsz:bs.length+kb.size+vb.size+64<4294967295)(hcnt:cnt<2^32)(hr: ∀w,Sat w R->RdB w key.a key.n kb)(hvr: ∀w,Sat w R->RdB w val.a val.n vb)
  (h:BtSat b bs cnt R w) (k: ∀w',BtSat b (hdr bs++recKV 2 (bl kb) (bl vb)) (cnt+1) R w'->K .nil w'):F77 (some b) key val x3 K w:=by
 have hh:=hdr_len h.hb
 obtain⟨s,hs,rfl,h⟩:=h
 unfold F77
 refine call115 ?_
 unfold F115
 rw[hn,hvn]
 refine call143 (spec143 (kind:=2) hs hz hvz hsz hcnt h fun a c mts j1 j2 post o1 o2 w hj hj2 ho ho2 hc _ h=>?_)
 unfold btc at h
 refine⟨_,rfl,Ld1 h ⟨_,rfl,St1 h rfl fun w h=>⟨_,rfl,_,rfl,Ld1 h ?_⟩⟩⟩
 dsimp only
 refine doneKV1 (s:={s with data:=⟨some a,o2+vb.size,c⟩,cnt:=s.cnt+1,mts:=mts,off:=(hdr bs).length,dk:=⟨some (a.add o1),kb.size,c-o1⟩,dv:=⟨some (a.add o2),vb.size,c-o2⟩}) (w:=w) hn hj ho (hr _ (h.near).tail.tail) h fun w h=>?_
 unfold btc at h
 refine⟨_,rfl,Ld1 h ?_⟩
 dsimp only
 have e1:(nb (hdr bs++2::(vi kb.size++(bl kb++vi vb.size)))).length=o2:=by rw[nb_len,List.length_append,List.length_cons,List.length_append,List.length_append,bl_len];omega
 refine arrCopy (s:=si87) (x:=val) (d:=⟨some (a.add o2),vb.size,c-o2⟩) (new:=nb (bl vb)) (h.mv 1) (fun _=>by rw[e1]) (by rw[nb_len,bl_len,hj2]) (Nat.le_of_eq hvn) (by rw[nb_len,bl_len,hvn];exact(Nat.mul_one _).symm) (by rw[<-bytesOf_bl];exact(hvr _ (h.near).tail.tail).rdS) (nb_one _) fun w h=>?_
 obtain⟨s',hs',e',h⟩:=doneKV2 (kb:=kb) (v:=bl vb) (s:={s with data:=⟨some a,o2+vb.size,c⟩,cnt:=s.cnt+1,mts:=mts,off:=(hdr bs).length,dk:=⟨some (a.add o1),kb.size,c-o1⟩,dv:=⟨some (a.add o2),vb.size,c-o2⟩}) (kind:=2) (o2:=o2) (c:=c) ho (by rw[bl_len];exact ho2) (by rw[bl_len];exact hc) (by rw[bl_len]) hh.1 (by rw[bl_len];exact h.mv 1)
 have h':=h
 unfold btc at h
 refine⟨_,rfl,Ld1 h ?_⟩
 exact ifNNone (decI_nil (k _ ⟨s',hs',e',h'.near⟩))
theorem spec80 {b:Addr}{bs:List Nat}{cnt:Nat}{kb vb:ByteArray}{key val:Sl}{x3:Option Addr}{R w}{K:IV->WP}(hn:key.n=kb.size)(hvn:val.n=vb.size)(hz:kb.size<2^28)(hvz:vb.size<2^28)(hsz:bs.length+kb.size+vb.size+64<4294967295)(hcnt:cnt<2^32)(hr: ∀w,Sat w R->RdB w key.a key.n kb)(hvr: ∀w,Sat w R->RdB w val.a val.n vb)
  (h:BtSat b bs cnt R w) (k: ∀w',BtSat b (hdr bs++recKV 15 (bl kb) (bl vb)) (cnt+1) R w'->K .nil w'):F80 (some b) key val x3 K w:=by
 have hh:=hdr_len h.hb
 obtain⟨s,hs,rfl,h⟩:=h
 unfold F80
 refine call118 ?_
 unfold F118
 rw[hn,hvn]
 refine call143 (spec143 (kind:=15) hs hz hvz hsz hcnt h fun a c mts j1 j2 post o1 o2 w hj hj2 ho ho2 hc _ h=>?_)
 unfold btc at h
 refine⟨_,rfl,Ld1 h ⟨_,rfl,St1 h rfl fun w h=>⟨_,rfl,Ld1 h (ifNNone ⟨_,rfl,_,rfl,Ld1 h ?_⟩)⟩⟩⟩
 dsimp only at h|-
 generalize IntKind.u64.wrap (s.crd+1)=crd at h
 refine doneKV1 (s:={s with crd:=crd,data:=⟨some a,o2+vb.size,c⟩,cnt:=s.cnt+1,mts:=mts,off:=(hdr bs).length,dk:=⟨some (a.add o1),kb.size,c-o1⟩,dv:=⟨some (a.add o2),vb.size,c-o2⟩}) (w:=w) hn hj ho (hr _ (h.near).tail.tail) h fun w h=>?_
 unfold btc at h
 refine⟨_,rfl,Ld1 h ?_⟩
 dsimp only
 have e1:(nb (hdr bs++15::(vi kb.size++(bl kb++vi vb.size)))).length=o2:=by rw[nb_len,List.length_append,List.length_cons,List.length_append,List.length_append,bl_len];omega
 refine arrCopy (s:=si87) (x:=val) (d:=⟨some (a.add o2),vb.size,c-o2⟩) (new:=nb (bl vb)) (h.mv 1) (fun _=>by rw[e1]) (by rw[nb_len,bl_len,hj2]) (Nat.le_of_eq hvn) (by rw[nb_len,bl_len,hvn];exact(Nat.mul_one _).symm) (by rw[<-bytesOf_bl];exact(hvr _ (h.near).tail.tail).rdS) (nb_one _) fun w h=>?_
 obtain⟨s',hs',e',h⟩:=doneKV2 (kb:=kb) (v:=bl vb) (s:={s with crd:=crd,data:=⟨some a,o2+vb.size,c⟩,cnt:=s.cnt+1,mts:=mts,off:=(hdr bs).length,dk:=⟨some (a.add o1),kb.size,c-o1⟩,dv:=⟨some (a.add o2),vb.size,c-o2⟩}) (kind:=15) (o2:=o2) (c:=c) ho (by rw[bl_len];exact ho2) (by rw[bl_len];exact hc) (by rw[bl_len]) hh.1 (by rw[bl_len];exact h.mv 1)
 have h':=h
 unfold btc at h
 refine⟨_,rfl,Ld1 h ?_⟩
 exact ifNNone (decI_nil (k _ ⟨s',hs',e',h'.near⟩))
theorem spec147 {b:Addr}{s:BtS}{R w}{K:Unit->WP}(h:Sat w (Arr b (btc s)::R))(k: ∀crk mfv w',Sat w' (Arr b (btc {s with crk:=crk,mfv:=mfv})::R)->K () w'):F147 (some b) K w:=by
 unfold F147
 unfold btc at h
 refine⟨_,rfl,Ld1 h ⟨_,rfl,St1 h rfl fun w h=>?_⟩⟩
 generalize IntKind.u64.wrap (s.crk+1)=crk at h
 refine⟨fun _ w=> ∃mfv,Sat w (Arr b (btc {s with crk:=crk,mfv:=mfv})::R),?_,?_⟩
 ·clear h
  rintro _ w ⟨mfv,h⟩
  have h':=h
  unfold btc at h
  exact⟨_,rfl,Ld1 h (ifNNone (k crk mfv w h'))⟩
 ·have h':Sat w (Arr b (btc {s with crk:=crk})::R):=h
  refine⟨_,rfl,Ld1 h ?_⟩
  refine ifd (fun _=>⟨_,rfl,St1 h rfl fun w h=>⟨8,h⟩⟩) fun _=>⟨s.mfv,h'⟩
theorem spec81 {b:Addr}{bs:List Nat}{cnt:Nat}{kb vb:ByteArray}{key val:Sl}{x3:Option Addr}{R w}{K:IV->WP}(hn:key.n=kb.size)(hvn:val.n=vb.size)(hz:kb.size<2^28)(hvz:vb.size<2^28)(hsz:bs.length+kb.size+vb.size+64<4294967295)(hcnt:cnt<2^32)(hr: ∀w,Sat w R->RdB w key.a key.n kb)(hvr: ∀w,Sat w R->RdB w val.a val.n vb)
  (h:BtSat b bs cnt R w) (k: ∀w',BtSat b (hdr bs++recKV 19 (bl kb) (bl vb)) (cnt+1) R w'->K .nil w'):F81 (some b) key val x3 K w:=by
 have hh:=hdr_len h.hb
 obtain⟨s,hs,rfl,h⟩:=h
 unfold F81
 refine call119 ?_
 unfold F119
 rw[hn,hvn]
 refine call143 (spec143 (kind:=19) hs hz hvz hsz hcnt h fun a c mts j1 j2 post o1 o2 w hj hj2 ho ho2 hc _ h=>?_)
 refine call147 (spec147 h fun crk mfv w h=>?_)
 unfold btc at h
 refine⟨_,rfl,_,rfl,Ld1 h ?_⟩
 dsimp only at h|-
 refine doneKV1 (s:={s with crk:=crk,mfv:=mfv,data:=⟨some a,o2+vb.size,c⟩,cnt:=s.cnt+1,mts:=mts,off:=(hdr bs).length,dk:=⟨some (a.add o1),kb.size,c-o1⟩,dv:=⟨some (a.add o2),vb.size,c-o2⟩}) (w:=w) hn hj ho (hr _ (h.near).tail.tail) h fun w h=>?_
 unfold btc at h
 refine⟨_,rfl,Ld1 h ?_⟩
 dsimp only
 have e1:(nb (hdr bs++19::(vi kb.size++(bl kb++vi vb.size)))).length=o2:=by rw[nb_len,List.length_append,List.length_cons,List.length_append,List.length_append,bl_len];omega
 refine arrCopy (s:=si87) (x:=val) (d:=⟨some (a.add o2),vb.size,c-o2⟩) (new:=nb (bl vb)) (h.mv 1) (fun _=>by rw[e1]) (by rw[nb_len,bl_len,hj2]) (Nat.le_of_eq hvn) (by rw[nb_len,bl_len,hvn];exact(Nat.mul_one _).symm) (by rw[<-bytesOf_bl];exact(hvr _ (h.near).tail.tail).rdS) (nb_one _) fun w h=>?_
 obtain⟨s',hs',e',h⟩:=doneKV2 (kb:=kb) (v:=bl vb) (s:={s with crk:=crk,mfv:=mfv,data:=⟨some a,o2+vb.size,c⟩,cnt:=s.cnt+1,mts:=mts,off:=(hdr bs).length,dk:=⟨some (a.add o1),kb.size,c-o1⟩,dv:=⟨some (a.add o2),vb.size,c-o2⟩}) (kind:=19) (o2:=o2) (c:=c) ho (by rw[bl_len];exact ho2) (by rw[bl_len];exact hc) (by rw[bl_len]) hh.1 (by rw[bl_len];exact h.mv 1)
 have h':=h
 unfold btc at h
 refine⟨_,rfl,Ld1 h ?_⟩
 exact ifNNone (decI_nil (k _ ⟨s',hs',e',h'.near⟩))
end Go.Proofs.YtpkoddfamelnhaaGreatDoor
