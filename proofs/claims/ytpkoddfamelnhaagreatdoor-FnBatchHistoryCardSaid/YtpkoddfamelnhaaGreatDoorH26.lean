/- Part 26 of the proof of fnBatchHistory_card. Conditions: none. -/
import Derived.Test.YtpkoddfamelnhaaGreatDoorH25
set_option linter.unusedVariables false
set_option linter.unusedSimpArgs false
namespace Go.Proofs.YtpkoddfamelnhaaGreatDoor
open Go Go.Tr
set_option maxRecDepth 100000
theorem opVal_td {o:OpM}(hk:o.kind=15):opVal o=some (bl o.end_):=by
 unfold opVal
 rw[hk];simp
def RT (c:RKC)(j:Nat)(z:Sl×Option Addr×Addr)(D:Hp)(s:FrS)(fkb:ByteArray)(out:List SpanM)(xs:List SpC)(e:EntM)(val:Sl)(R:List Chunk):List Chunk:=
 Arr c.f [cmpV,s.fmt.enc,(TDCs c).em.enc,.slice s.pend.a s.pend.n s.pend.c,.slice s.done.a s.done.n s.done.c]::Arr (c.f.add 5) [s.sbc.enc,.slice s.sbuf.a s.sbuf.n s.sbuf.c]::Arr (c.f.add 7) [.slice s.fb.a s.fb.n s.fb.c]::Arr (c.f.add 8) [.slice s.fk.a s.fk.n s.fk.c]::Arr (c.f.add 9) [.bool s.fin]::Buf 3 s.fb s.fbc::(TDCs c).C D out::
   Buf 4 s.pend (xs.flatMap spc)::Buf 4 s.done []::Buf 1 s.fk (bytesOf fkb)::Arr c.p (itcs c.q c.data c.offs (j:Int) (e.key c.data) (e.tr:Int))::Arr z.2.2 [.slice val.a val.n val.c,.pointer none]::R
theorem round90 {c:RKC}{R}{j:Nat}{z:Sl×Option Addr×Addr}{w D}{s:FrS}{fkb:ByteArray}{out:List SpanM}{xs:List SpC}{ps:List SpanM}{x0:ByteArray}{kp:Addr}{r1 r2:List Value}{val:Sl}{e:EntM}{K:Unit->WP}{next8:(Sl×Option Addr×Addr)->WP}
  (hok:TDCOK c) (hj:j<c.E.length) (he:c.E[j]? =some e) (hle:c.D0.le D) (hfr:FrOK D s fkb ((c.E.take j).map spanOfT) out xs ps x0) (hx0:bcmp x0 e.op.key<=0) (hr1:r1.length=3) (hr2:r2.length=3*(c.E.length-j-1)) (hval:ValAt D val e.op)
  (hnext: ∀z w,TDInv c R (c.E.length-(j+1)) z w->next8 z w) (n4:Addr)
  (h:Sat w (Own D::Arr kp r1::Arr n4 [.slice none 0 0,.slice none 0 0,.slice none 0 0,.int .i8 (0:Int)]::Arr (kp.add 3) r2::RT c j z D s fkb out xs e val R)):
  CallF Tryz.prog 133 [.agg #[.slice (e.key c.data).a (e.key c.data).n (e.key c.data).c,.int .u64 (e.tr:Int)],.slice val.a val.n val.c,.slice (some kp) 0 (c.E.length-j)] [(.agg [.sl,.sl,.sl,.int .i8])] (fun rr w=>B90 (some c.f) (itV c.p) K next8 z n4 rr w) w:=by
 have hem:=List.mem_of_getElem? he
 have heo:=(hok.ho e hem).op
 have hkind:=hok.kind e hem
 have hi:=hok.i e hem
 have hk23:e.op.kind<=23:=by omega
 have hval':Cont D val (bl e.op.end_):=by
  unfold ValAt at hval
  rw[opVal_td hkind]at hval
  exact hval
 have hvn:val.n<2^40:=by
  rw[hval'.n]
  have:=opVal_len heo (opVal_td hkind)
  omega
 have z1:=heo.end_
 have z2:=heo.suf
 have z3:=heo.val
 refine call133 (ik1:=(e.key c.data,(e.tr:Int))) (v2:=val) (keysDst3:=⟨some kp,0,c.E.length-j⟩) ?_
 refine spec133 (D:=D) (kp:=kp) (row:=r1) (tr:=e.tr) hr1 om h ?_
 intro x w hx1 hx2 hx3 h
 exact body90 (x:=x) (y:=val) hok hj he hle hfr hx0 hr2 hx1 hx2 hx3 hval' h hnext
theorem round90' {c:RKC}{R}{j:Nat}{z:Sl×Option Addr×Addr}{w D}{s:FrS}{fkb:ByteArray}{out:List SpanM}{xs:List SpC}{ps:List SpanM}{x0:ByteArray}{kp:Addr}{r1 r2:List Value}{val:Sl}{e:EntM}{K:Unit->WP}{next8:(Sl×Option Addr×Addr)->WP}
  (hok:TDCOK c) (hj:j<c.E.length) (he:c.E[j]? =some e) (hle:c.D0.le D) (hfr:FrOK D s fkb ((c.E.take j).map spanOfT) out xs ps x0) (hx0:bcmp x0 e.op.key<=0) (hr1:r1.length=3) (hr2:r2.length=3*(c.E.length-j-1)) (hval:ValAt D val e.op)
  (hnext: ∀z w,TDInv c R (c.E.length-(j+1)) z w->next8 z w)
  (h:Sat w (Own D::Arr kp r1::Arr (kp.add 3) r2::RT c j z D s fkb out xs e val R)):
  CallF Tryz.prog 133 [.agg #[.slice (e.key c.data).a (e.key c.data).n (e.key c.data).c,.int .u64 (e.tr:Int)],.slice val.a val.n val.c,.slice (some kp) 0 (c.E.length-j)] [(.agg [.sl,.sl,.sl,.int .i8])] (fun rr w=>NewP [.slice none 0 0,.slice none 0 0,.slice none 0 0,.int .i8 (0:Int)] 113 (fun n4 w=>B90 (some c.f) (itV c.p) K next8 z n4 rr w) w) w:=by
 have hem:=List.mem_of_getElem? he
 have heo:=(hok.ho e hem).op
 have hkind:=hok.kind e hem
 have hi:=hok.i e hem
 have hk23:e.op.kind<=23:=by omega
 have hval':Cont D val (bl e.op.end_):=by
  unfold ValAt at hval
  rw[opVal_td hkind]at hval
  exact hval
 have hvn:val.n<2^40:=by
  rw[hval'.n]
  have:=opVal_len heo (opVal_td hkind)
  omega
 have z1:=heo.end_
 have z2:=heo.suf
 have z3:=heo.val
 refine call133 (ik1:=(e.key c.data,(e.tr:Int))) (v2:=val) (keysDst3:=⟨some kp,0,c.E.length-j⟩) ?_
 refine spec133 (D:=D) (kp:=kp) (row:=r1) (tr:=e.tr) hr1 om h ?_
 intro x w hx1 hx2 hx3 h
 exact NewP_run h fun n4 w h=>body90 (x:=x) (y:=val) hok hj he hle hfr hx0 hr2 hx1 hx2 hx3 hval' (h.pt 2) hnext
set_option maxHeartbeats 4000000 in
theorem loop90 {c:RKC}{R}{m0:Nat}{z0:Sl×Option Addr×Addr}{w:World}{K:Unit->WP}(hok:TDCOK c)(hinv:TDInv c R m0 z0 w)(k: ∀D' out' w',c.D0.le D'->SpansOK out'->(∀y,(keysOf out' y).Perm (covK (c.E.map spanOfT) y))->out'.length<=(c.E.length+1)*(c.E.length+1)->Sat w' (Own D'::(TDCs c).C D' out'::R)->K () w'):
  Tr.Loop (fun(next8:(Sl×Option Addr×Addr)->WP) (s7:Sl×Option Addr×Addr) w=>(if(!(s7.2.1).isNone)=true then∃p9,s7.2.1=some p9/\Ld (.agg [.sl,.int .u64]) p9 (fun(x10:Sl×Int) w=>(CallF Tryz.prog 27 [.pointer (some s7.2.2)] [(.one .sl)] (fun(r11:Sl) w=>LdAt (.agg [.sl,.int .u64]) p9 x10 w/\(CallF Tryz.prog 133 [.agg #[.slice x10.1.a x10.1.n x10.1.c,.int .u64 x10.2],.slice r11.a r11.n r11.c,.slice s7.1.a s7.1.n s7.1.c] [(.agg [.sl,.sl,.sl,.int .i8])] (fun(r12:Sl×Sl×Sl×Int) w=>NewP [.slice none 0 0,.slice none 0 0,.slice none 0 0,.int .i8 (0:Int)] 113 (fun(n13:Addr) w=>B90 (some c.f) (itV c.p) K next8 s7 n13 r12 w) w) w)/\(NewP [.slice none 0 0,.slice none 0 0,.slice none 0 0,.int .i8 (0:Int)] 113 (fun(n24:Addr) w=>LdAt (.agg [.sl,.int .u64]) p9 x10 w/\CallF Tryz.prog 133 [.agg #[.slice x10.1.a x10.1.n x10.1.c,.int .u64 x10.2],.slice r11.a r11.n r11.c,.slice s7.1.a s7.1.n s7.1.c] [(.agg [.sl,.sl,.sl,.int .i8])] (fun(r25:Sl×Sl×Sl×Int) w=>B90 (some c.f) (itV c.p) K next8 s7 n24 r25 w) w) w)) w)/\(NewP [.slice none 0 0,.slice none 0 0,.slice none 0 0,.int .i8 (0:Int)] 113 (fun(n36:Addr) w=>LdAt (.agg [.sl,.int .u64]) p9 x10 w/\CallF Tryz.prog 27 [.pointer (some s7.2.2)] [(.one .sl)] (fun(r37:Sl) w=>LdAt (.agg [.sl,.int .u64]) p9 x10 w/\CallF Tryz.prog 133 [.agg #[.slice x10.1.a x10.1.n x10.1.c,.int .u64 x10.2],.slice r37.a r37.n r37.c,.slice s7.1.a s7.1.n s7.1.c] [(.agg [.sl,.sl,.sl,.int .i8])] (fun(r38:Sl×Sl×Sl×Int) w=>B90 (some c.f) (itV c.p) K next8 s7 n36 r38 w) w) w) w)) w.drew else CallF Tryz.prog 74 [.pointer (some c.f)] [] (fun(r49:Unit) w=>K () w) w)) z0 w:=by
 have hn:=hok.n
 refine⟨fun m z w=>TDInv c R m z w,⟨m0,hinv⟩,?_⟩
 clear hinv
 rintro m z w ⟨j,D,s,fkb,out,xs,ps,x0,kp,rest,uk,tr,val,rfl,hat⟩
 obtain⟨hle,hfr,hjn,hkn,hkc,hka,hrl,hcur,hfin,h⟩:=hat
 by_cases hj:j<c.E.length
 ·obtain⟨hz1,e,he,rfl,rfl,hval,hx0⟩:=hcur hj
  have hka1:=hka hj
  clear hka hcur hfin
  have hnext: ∀z w,TDInv c R (c.E.length-(j+1)) z w-> ∃m',m'<c.E.length-j/\TDInv c R m' z w:=fun z w h=>⟨_,by omega,h⟩
  obtain⟨⟨ka,kn,kc⟩,zi,lz⟩:=z
  dsimp only at hkn hkc hka1 hz1 h
  subst hkn hkc hka1 hz1
  refine ifNSome ⟨_,rfl,?_⟩
  unfold FX FL at h
  have h0:=h
  unfold itcs at h0
  refine LdN h0 ?_
  clear h0
  have hrow:=row3 (n:=c.E.length-j) hrl om (h.mv 13)
  obtain⟨r1,r2,hr1,hr2,h2⟩:=hrow
  have h3:Sat w (Own D::Arr kp r1::Arr (kp.add 3) r2::RT c j (⟨some kp,0,c.E.length-j⟩,some (c.p.add 5),lz) D s fkb out xs e val R):=(((((((((((((((h2.mv 14).mv 14).mv 14).mv 14).mv 14).mv 14).mv 13).mv 13).mv 13).mv 13).mv 13).mv 13).mv 13).mv 13).mv 14)
  clear h h2
  replace h3:=h3.near (w':=w.drew)
  have hld: ∀{w},Sat w (Own D::Arr kp r1::Arr (kp.add 3) r2::RT c j (⟨some kp,0,c.E.length-j⟩,some (c.p.add 5),lz) D s fkb out xs e val R)->LdAt (.agg [.sl,.int .u64]) (c.p.add 5) (e.key c.data,(e.tr:Int)) w:=fun h=>by
   unfold RT itcs at h
   exact LdAtN h
  have htk: ∀{L0:List Chunk},Take (Own D::Arr kp r1::Arr (kp.add 3) r2::RT c j (⟨some kp,0,c.E.length-j⟩,some (c.p.add 5),lz) D s fkb out xs e val R) (Arr lz [.slice val.a val.n val.c,.pointer none]) _:=fun {_}=>.there .k13
  refine⟨call27 (spec27 h3 (htk (L0:=[])) fun h3=>⟨hld h3,?_,?_⟩),?_⟩
  ·exact round90' hok hj he hle hfr hx0 hr1 om hval hnext h3
  ·exact NewP_run h3 fun n4 w h=>⟨hld h.tail,round90 hok hj he hle hfr hx0 hr1 om hval hnext n4 (h.pt 2)⟩
  ·exact NewP_run h3 fun n4 w h=>⟨hld h.tail,call27 (spec27 h (.there (htk (L0:=[]))) fun h=>⟨hld h.tail,round90 hok hj he hle hfr hx0 hr1 om hval hnext n4 (h.pt 2)⟩)⟩
 ·have hje:j=c.E.length:=by omega
  have hz:=hfin hje
  rw[hz]
  refine ifNNone ?_
  have htake:c.E.take j=c.E:=by rw[hje,List.take_length]
  rw[htake]at hfr
  have hnd1:(((c.E.map spanOfT).flatMap (·.keys)).map (·.tr)).Nodup:=by
   have h1:=take_keysT (E:=c.E) (j:=j)
   rw[htake]at h1
   rw[h1];exact hok.nd
  have hkl1:((c.E.map spanOfT).flatMap (·.keys)).length<2^30:=by
   have h1:=take_keysT_len (E:=c.E) (j:=j)
   rw[htake]at h1
   omega
  refine call74 (spec74 hfr (covK_nd hnd1) hkl1 (by rw[List.length_map];omega) h fun D' out' w hD h1 h2 h3 h=>?_)
  exact k D' out' w (hle.trans hD) h1 h2 (by rw[List.length_map]at h3;exact h3) ((h.mv 4).tail|>fun h=>(h.mv 3).tail|>fun h=>(h.mv 2).tail)
set_option maxHeartbeats 4000000 in
theorem spec90 {c:RKC}{R}{s:FrS}{w}{K:Unit->WP}(hok:TDCOK c)(hne:c.E≠ [])(hfr:FrOK c.D0 s .empty [] [] [] [] .empty)(h:Sat w (FX c.f (TDCs c) s .empty c.D0 [] [] (Arr c.p (itcs c.q c.data c.offs (-1) ⟨none,0,0⟩ 0)::R)))
  (k: ∀D' out' w',c.D0.le D'->SpansOK out'->(∀y,(keysOf out' y).Perm (covK (c.E.map spanOfT) y))->out'.length<=(c.E.length+1)*(c.E.length+1)->Sat w' (Own D'::(TDCs c).C D' out'::R)->K () w'):F90 (some c.f) (itV c.p) (c.E.length:Int) K w:=by
 have hn:=hok.n
 unfold F90
 refine MakeP_run h ⟨by omega,by omega,by show(56:Int)*_<=_;omega,by omega⟩ fun m w h=>?_
 have hml:=zrep109 (Int.toNat (c.E.length:Int))
 rw[Int.toNat_natCast]at hml h
 generalize zrep si109.l c.E.length=rest at hml h
 unfold FX FL at h
 have h1:=(((((((((((((h.mv 11).mv 11).mv 11).mv 9).mv 9).mv 9).mv 9).mv 9).mv 9).mv 9).mv 10).mv 11).mv 12)
 clear h
 refine itFirstT hok.hc hok.hE hok.ho hok.hbs h1 (fun w he h=>?_) (fun e v w he hv h=>?_)
 ·exact absurd he hne
 ·have hpos:=(List.getElem?_eq_some_iff.1 he).1
  refine NewP_run h fun n w h=>StL_of (St1 h rfl fun w h=>St1 h rfl fun w h=>?_)
  simp only[StC]
  refine loop90 (R:=R) (m0:=c.E.length) hok ⟨0,c.D0,s,.empty,[],[],[],.empty,m,rest,e.key c.data,(e.tr:Int),v,rfl,Hp.le_refl _,hfr,by omega,rfl,rfl,fun hlt=>rfl,hml,fun hlt=>⟨rfl,e,he,rfl,rfl,hv,empty_le _⟩,fun h0=>by omega,?_⟩ k
  exact((((((((((((((h.mv 4).mv 1).mv 2).mv 13).mv 13).mv 13).mv 6).mv 7).mv 13).mv 13).mv 13).mv 13).mv 13).mv 13)
def isDel (e:EntM):Bool:=decide (e.op.kind=15)
def isRK (e:EntM):Bool:=decide (e.op.kind=19\/e.op.kind=20\/e.op.kind=21)
def isPt (e:EntM):Bool:= !isDel e&& !isRK e
def entL (l:List OpM):List EntM:=ents 0 12 l
theorem entL_snoc (l:List OpM)(o:OpM):entL (l++[o])=entL l++[⟨l.length,12+(l.flatMap recOp).length,o⟩]:=by
 unfold entL
 rw[ents_snoc,Nat.zero_add]
theorem entL_len (l:List OpM):(entL l).length=l.length:=by
 have:=congrArg List.length (ents_op l 0 12)
 rwa[List.length_map]at this
theorem entL_ok {l:List OpM}(h: ∀o∈l,OpOK o)(hn:l.length<2^32)(hne:l≠ []): ∀e∈entL l,EntOK (encL l) e:=by
 have e1:encL l=z12++l.flatMap recOp:=if_neg hne
 refine ents_ok (rest:=[]) h ?_ ?_ om
 ·rw[e1,List.append_nil];rfl
 ·rw[e1,List.length_append];exact Nat.le_refl _
def GB (nn q:Addr)(fmt:FV)(data offs d r:Sl)(E:List EntM)(D:Hp)(R:List Chunk):List Chunk:=
 Arr nn [.pointer (some q)]::Arr q (fbc fmt data offs ⟨none,0,0⟩ ⟨none,0,0⟩)::Buf 4 offs ((E.filter isPt).flatMap ec)::Buf 4 d ((E.filter isDel).flatMap ec)::Buf 4 r ((E.filter isRK).flatMap ec)::Own D::R
def offAt (l:List OpM)(i:Nat):Nat:=12+((l.take i).flatMap recOp).length
set_option maxHeartbeats 4000000 in
theorem gatherE {nn q ad : Addr} {fmt} {data offs0 : Sl} {l : List OpM} {D} {x0 : Sl} {R} {w : World} {K : Option Addr × IV -> WP} {J : Sl × Sl -> WP} (hl : ∀ o ∈ l, OpOK o) (hlen : l.length <= 512) (hc : Cont D data (encL l)) (hne : l ≠ []) (hsz : (encL l).length < 2^32 - 64) (hx : Cont D x0 (l.flatMap recOp)) (hxc : x0.c = data.c - 12) (ho : offs0.n = 0)
  (h:Sat w (Arr ad [.slice x0.a x0.n x0.c]::GB nn q fmt data offs0 ⟨none,0,0⟩ ⟨none,0,0⟩ [] D R))
  (k: ∀offs d r w',offs.n=((entL l).filter isPt).length->d.n=((entL l).filter isDel).length->r.n=((entL l).filter isRK).length->Sat w' (GB nn q fmt data offs d r (entL l) D R)->J (d,r) w'):
  Tr.Loop (fun(nextv63:(Sl×Sl×Int×Addr)->WP) (sv64:Sl×Sl×Int×Addr) w=>Ld (.one .sl) sv64.2.2.2 (fun(xv65:Sl) w=>(if(decide ((xv65.n:Int)>(0:Int)))=true then Tr.Join (fun(sv66:Sl×Sl) w=>Ld (.one .sl) sv64.2.2.2 (fun(xv67:Sl) w=>NewP [.slice none 0 0] 248 (fun(nv68:Addr) w=>St nv68 (.slice xv67.a xv67.n xv67.c) (fun w=>nextv63 (sv66.1,sv66.2,(IntKind.u32.wrap (sv64.2.2.1+(1:Int))),nv68) w) w) w) w) (fun J_v69=>Ld (.one .ptr) nn (fun(xv70:Option Addr) w=> ∃pv71,xv70=some pv71/\Ld (.one .sl) (pv71.add 2) (fun(datav72:Sl) w=>Ld (.one .sl) sv64.2.2.2 (fun(xv73:Sl) w=>CallF Tryz.prog 87 [.pointer (some sv64.2.2.2)] [(.one (.int .u8)),(.one .sl),(.one .sl),(.one .bool),(.one .ifc)] (fun(rv74:Int×Sl×Sl×Bool×IV) w=>(if(!rv74.2.2.2.1)=true then IsI (IV.enc rv74.2.2.2.2)/\(if(!(isNilI (IV.enc rv74.2.2.2.2)))=true then decI (IV.enc rv74.2.2.2.2) (fun iv75=>K (none,iv75) w)else J (sv64.1,sv64.2.1) w)else NewP [.int .u32 (0:Int),.int .u32 (0:Int),.int .u32 (0:Int),.int .u32 (0:Int)] 252 (fun(nv76:Addr) w=>StL nv76 [.int .u32 (IntKind.u32.wrap (IntKind.i64.wrap ((datav72.n:Int)-(xv73.n:Int)))),.int .u32 sv64.2.2.1,.int .u32 (0:Int),.int .u32 (0:Int)] (fun w=>Tr.Join (fun(sv77:Unit) w=>(if(rv74.1==(15:Int))=true then Ld (.agg [.int .u32,.int .u32,.int .u32,.int .u32]) nv76 (fun(xv78:Int×Int×Int×Int) w=>NewS [.int .u32 xv78.1,.int .u32 xv78.2.1,.int .u32 xv78.2.2.1,.int .u32 xv78.2.2.2] 252 1 (fun(lv79:Sl) w=>AppP si243 sv64.1 lv79 (fun(av80:Sl) w=>J_v69 (av80,sv64.2.1) w) w) w) w else Tr.Join (fun(sv81:Bool) w=>(if sv81=true then Ld (.agg [.int .u32,.int .u32,.int .u32,.int .u32]) nv76 (fun(xv82:Int×Int×Int×Int) w=>NewS [.int .u32 xv82.1,.int .u32 xv82.2.1,.int .u32 xv82.2.2.1,.int .u32 xv82.2.2.2] 252 1 (fun(lv83:Sl) w=>AppP si243 sv64.2.1 lv83 (fun(av84:Sl) w=>J_v69 (sv64.1,av84) w) w) w) w else Ld (.one .ptr) nn (fun(xv85:Option Addr) w=>Ld (.one .ptr) nn (fun(xv86:Option Addr) w=> ∃pv87,xv86=some pv87/\Ld (.one .sl) (pv87.add 4) (fun(offsetsv88:Sl) w=>Ld (.agg [.int .u32,.int .u32,.int .u32,.int .u32]) nv76 (fun(xv89:Int×Int×Int×Int) w=>NewS [.int .u32 xv89.1,.int .u32 xv89.2.1,.int .u32 xv89.2.2.1,.int .u32 xv89.2.2.2] 252 1 (fun(lv90:Sl) w=>LdAt (.one .sl) (pv87.add 4) offsetsv88 w/\LdAt (.one .ptr) nn xv86 w/\LdAt (.one .ptr) nn xv85 w/\AppP si243 offsetsv88 lv90 (fun(av91:Sl) w=>LdAt (.one .ptr) nn xv85 w/\ ∃pv92,xv85=some pv92/\St (pv92.add 4) (.slice av91.a av91.n av91.c) (fun w=>J_v69 (sv64.1,sv64.2.1) w) w) w) w) w) w) w) w.drew)) (fun J_v93=>(if(rv74.1==(21:Int))=true then J_v93 (rv74.1==(21:Int)) w else(if(rv74.1==(20:Int))=true then J_v93 (rv74.1==(20:Int)) w else J_v93 (rv74.1==(19:Int)) w))))) (fun J_v94=>(if((IntKind.u32.wrap (rv74.2.1.n:Int))==(0:Int))=true then St (nv76.add 2) (.int .u32 (IntKind.u32.wrap ((IntKind.u32.wrap (IntKind.i64.wrap ((datav72.n:Int)-(xv73.n:Int))))+(2:Int)))) (fun w=>Ld (.one (.int .u32)) (nv76.add 2) (fun(keyStartv95:Int) w=>St (nv76.add 3) (.int .u32 keyStartv95) (fun w=>J_v94 () w) w) w) w else Ld (.one .ptr) nn (fun(xv96:Option Addr) w=> ∃pv97,xv96=some pv97/\Ld (.one .sl) (pv97.add 2) (fun(datav98:Sl) w=>St (nv76.add 2) (.int .u32 (IntKind.u32.wrap (IntKind.i64.wrap ((datav98.c:Int)-(rv74.2.1.c:Int))))) (fun w=>Ld (.one (.int .u32)) (nv76.add 2) (fun(keyStartv99:Int) w=>St (nv76.add 3) (.int .u32 (IntKind.u32.wrap (keyStartv99+(IntKind.u32.wrap (rv74.2.1.n:Int))))) (fun w=>J_v94 () w) w) w) w) w) w))) w) w)) w) w) w) w.drew)else J (sv64.1,sv64.2.1) w)) w) (⟨none,0,0⟩,⟨none,0,0⟩,(0:Int),ad) w:=by
 refine⟨fun m z w=> ∃(i:Nat) (x offs d r:Sl) (ad:Addr),z=(d,r,(i:Int),ad)/\i<=l.length/\m=l.length-i/\Cont D x ((l.drop i).flatMap recOp)/\x.c=data.c-offAt l i/\x.n=data.n-offAt l i/\offs.n=((entL (l.take i)).filter isPt).length/\d.n=((entL (l.take i)).filter isDel).length/\r.n=((entL (l.take i)).filter isRK).length/\
   Sat w (Arr ad [.slice x.a x.n x.c]::GB nn q fmt data offs d r (entL (l.take i)) D R),⟨_,0,x0,offs0,⟨none,0,0⟩,⟨none,0,0⟩,ad,rfl,Nat.zero_le _,rfl,hx,hxc,?_,ho,rfl,rfl,h⟩,?_⟩
 ·rw[hx.n,hc.n]
  have e1:encL l=z12++l.flatMap recOp:=if_neg hne
  rw[e1,List.length_append]
  show _=12+_-12
  omega
 clear h
 rintro m z w ⟨i,x,offs,d,r,ad,rfl,hi,hm,hx,hxc,hxn,hon,hdn,hrn,h⟩
 unfold GB fbc at h
 refine Ld1 h ?_
 have hsplit:l.drop i=[]\/ ∃o,l[i]? =some o/\i<l.length/\l.drop i=o::l.drop (i+1)/\l.take (i+1)=l.take i++[o]:=by
  by_cases hil:i<l.length
  ·exact .inr ⟨l[i],List.getElem?_eq_getElem hil,hil,List.drop_eq_getElem_cons hil,by rw[List.take_add_one,List.getElem?_eq_getElem hil];rfl⟩
  ·exact .inl (List.drop_eq_nil_of_le om)
 refine ifd (fun hpos=>?_) (fun hz=>?_)
 ·rcases hsplit with hnil | ⟨o, hio, hil, hdrop, htake⟩
  ·rw[hnil]at hx
   have:=hx.n
   simp at this
   dsimp only at hpos
   omega
  ·have hom := List.mem_of_getElem? hio
   rw[hdrop,List.flatMap_cons]at hx
   have hoff:offAt l (i+1)=offAt l i+(recOp o).length:=by unfold offAt;rw[htake,List.flatMap_append,List.length_append,List.flatMap_cons,List.flatMap_nil,List.append_nil];omega
   refine⟨fun(s66:Sl×Sl) w=> ∃(x' offs':Sl),Cont D x' ((l.drop (i+1)).flatMap recOp)/\x'.c=data.c-offAt l (i+1)/\x'.n=data.n-offAt l (i+1)/\offs'.n=((entL (l.take (i+1))).filter isPt).length/\s66.1.n=((entL (l.take (i+1))).filter isDel).length/\s66.2.n=((entL (l.take (i+1))).filter isRK).length/\
    Sat w (Arr ad [.slice x'.a x'.n x'.c]::GB nn q fmt data offs' s66.1 s66.2 (entL (l.take (i+1))) D R),?_,?_⟩
   ·clear h
    rintro⟨d',r'⟩ w ⟨x',offs',h1,h2,h3,h4,h5,h6,h⟩
    unfold GB fbc at h
    refine Ld1 h (NewP_run h fun n w h=>St1 h rfl fun w h=>?_)
    have ew:IntKind.u32.wrap ((i:Int)+1)=((i+1:Nat):Int):=by rw[wu32 om om];omega
    rw[ew]
    exact⟨l.length-(i+1),by omega,i+1,x',offs',d',r',n,rfl,by omega,rfl,h1,h2,h3,h4,h5,h6,h.t1.tail⟩
   ·refine Ld1 h ⟨_,rfl,Ld1 h (Ld1 h ?_)⟩
    have hxl:=hx.n
    have hcn:=hc.n
    have hcc:=hc.nc
    have hoi:offAt l i+x.n=data.n:=by
     have e1:encL l=z12++l.flatMap recOp:=if_neg hne
     have e2:l.flatMap recOp=(l.take i).flatMap recOp++(l.drop i).flatMap recOp:=by rw[<-List.flatMap_append,List.take_append_drop]
     rw[hcn,e1,List.length_append,e2,List.length_append,hdrop,List.flatMap_cons,hxl]
     show 12+_+_=12+_
     omega
    have h2:=(h.mv 6).t1
    clear h
    refine call87 (spec87 (hl o hom) hx om h2.near fun uk v r2 w cuk huk cr hrc h=>?_)
    clear h2
    dsimp only
    refine ifn (fun hh=>nomatch hh) fun _=>NewP_run h fun n90 w h=>StL_of (St1 h rfl fun w h=>St1 h rfl fun w h=>St1 h rfl fun w h=>St1 h rfl fun w h=>?_)
    simp only[StC]
    have e1:IntKind.u32.wrap (IntKind.i64.wrap ((data.n:Int)-(x.n:Int)))=((offAt l i:Nat):Int):=by
     rw[wi64 om om,wu32 om om];omega
    rw[e1]at h|-
    have hkz:=(hl o hom).key
    have h4:=vi_len4 (n:=o.key.size) om
    have hkn:=cuk.n
    rw[bl_len]at hkn
    have hukc:=cuk.nc
    have hen:ec ⟨i,offAt l i,o⟩=[.int .u32 ((offAt l i:Nat):Int),.int .u32 (i:Int),.int .u32 ((offAt l i+1+(vi o.key.size).length:Nat):Int),.int .u32 ((offAt l i+1+(vi o.key.size).length+o.key.size:Nat):Int)]:=rfl
    refine⟨fun _ w=>Sat w (Arr n90 (ec ⟨i,offAt l i,o⟩)::Arr ad [.slice r2.a r2.n r2.c]::Own D::Arr nn [.pointer (some q)]::Arr q (fbc fmt data offs ⟨none,0,0⟩ ⟨none,0,0⟩)::Buf 4 offs (((entL (l.take i)).filter isPt).flatMap ec)::Buf 4 d (((entL (l.take i)).filter isDel).flatMap ec)::Buf 4 r (((entL (l.take i)).filter isRK).flatMap ec)::R),?_,?_⟩
    ·clear h
     intro _ w h
     have hsn:entL (l.take (i+1))=entL (l.take i)++[⟨i,offAt l i,o⟩]:=by
      rw[htake,entL_snoc,List.length_take,Nat.min_eq_left om];rfl
     have hcx:r2.c=data.c-offAt l (i+1):=by rw[hrc,hxc,hoff];omega
     have hnx:r2.n=data.n-offAt l (i+1):=by
      have:=cr.n
      rw[List.length_append]at hxl
      omega
     have hen':=hen
     unfold ec at h
     refine ife (fun hk15=>?_) (fun hk15=>?_)
     ·have hk:o.kind=15:=by omega
      have f1:((entL (l.take (i+1))).filter isDel)=((entL (l.take i)).filter isDel)++[⟨i,offAt l i,o⟩]:=by rw[hsn,List.filter_append];simp[isDel,hk]
      have f2:((entL (l.take (i+1))).filter isRK)=((entL (l.take i)).filter isRK):=by rw[hsn,List.filter_append];simp[isRK,hk]
      have f3:((entL (l.take (i+1))).filter isPt)=((entL (l.take i)).filter isPt):=by rw[hsn,List.filter_append];simp[isPt,isDel,hk]
      refine LdN h (NewS_run h fun l94 w h=>?_)
      have hdl:d.n<=512:=by
       have h9:=List.length_filter_le isDel (entL (l.take i))
       rw[entL_len,List.length_take]at h9
       omega
      refine App1 (k:=4) rfl h .k7 .here rfl (ec_one ⟨i,offAt l i,o⟩) ?_ om fun r' w er ea h=>?_
      ·show(2*(d.n+1)+1024)*16<=_
       omega
      refine⟨r2,offs,cr,hcx,hnx,by rw[f3];exact hon,by rw[f1,List.length_append,er,hdn];rfl,by rw[f2];exact hrn,?_⟩
      unfold GB
      rw[f1,f2,f3,List.flatMap_append,List.flatMap_singleton]
      exact Sat.drop 2 (((((((((h.mv 4).mv 8).mv 2).mv 8).mv 8).mv 8).mv 8).mv 8).mv 8)
     ·have hk15': ¬o.kind=15:=by omega
      have f1:((entL (l.take (i+1))).filter isDel)=((entL (l.take i)).filter isDel):=by rw[hsn,List.filter_append];simp[isDel,hk15']
      have hkd:=(hl o hom).kind
      unfold OpKind at hkd
      refine⟨fun b w=>b=isRK ⟨i,offAt l i,o⟩/\Sat w (Arr n90 (ec ⟨i,offAt l i,o⟩)::Arr ad [.slice r2.a r2.n r2.c]::Own D::Arr nn [.pointer (some q)]::Arr q (fbc fmt data offs ⟨none,0,0⟩ ⟨none,0,0⟩)::Buf 4 offs (((entL (l.take i)).filter isPt).flatMap ec)::Buf 4 d (((entL (l.take i)).filter isDel).flatMap ec)::Buf 4 r (((entL (l.take i)).filter isRK).flatMap ec)::R),?_,?_⟩
      ·clear h
       rintro b w ⟨hb,h⟩
       unfold ec at h
       refine ifb (fun hbt=>?_) (fun hbf=>?_)
       ·rw[hbt]at hb
        have f2:((entL (l.take (i+1))).filter isRK)=((entL (l.take i)).filter isRK)++[⟨i,offAt l i,o⟩]:=by rw[hsn,List.filter_append];simp[<-hb]
        have f3:((entL (l.take (i+1))).filter isPt)=((entL (l.take i)).filter isPt):=by rw[hsn,List.filter_append];simp[isPt,<-hb]
        refine LdN h (NewS_run h fun l99 w h=>?_)
        have hdl:r.n<=512:=by
         have h9:=List.length_filter_le isRK (entL (l.take i))
         rw[entL_len,List.length_take]at h9
         omega
        refine App1 (k:=4) rfl h .k8 .here rfl (ec_one ⟨i,offAt l i,o⟩) ?_ om fun r' w er ea h=>?_
        ·show(2*(r.n+1)+1024)*16<=_
         omega
        refine⟨r2,offs,cr,hcx,hnx,by rw[f3];exact hon,by rw[f1];exact hdn,by rw[f2,List.length_append,er,hrn];rfl,?_⟩
        unfold GB
        rw[f1,f2,f3,List.flatMap_append,List.flatMap_singleton]
        exact Sat.drop 2 (((((((((h.mv 4).mv 1).mv 8).mv 8).mv 8).mv 8).mv 8).mv 8).mv 8)
       ·rw[hbf]at hb
        have f2:((entL (l.take (i+1))).filter isRK)=((entL (l.take i)).filter isRK):=by rw[hsn,List.filter_append];simp[<-hb]
        have f3:((entL (l.take (i+1))).filter isPt)=((entL (l.take i)).filter isPt)++[⟨i,offAt l i,o⟩]:=by rw[hsn,List.filter_append];simp[isPt,isDel,hk15',<-hb]
        unfold fbc at h
        refine Ld1 h (Ld1 h ⟨_,rfl,Ld1 h (LdN h (NewS_run h fun l106 w h=>⟨LdAt1 h,LdAt1 h,LdAt1 h,?_⟩))⟩)
        have hdl:offs.n<=512:=by
         have h9:=List.length_filter_le isPt (entL (l.take i))
         rw[entL_len,List.length_take]at h9
         omega
        refine App1 (k:=4) rfl h .k6 .here rfl (ec_one ⟨i,offAt l i,o⟩) ?_ (by dsimp only;omega) fun r' w er ea h=>?_
        ·show(2*(offs.n+1)+1024)*16<=_
         omega
        refine⟨LdAt1 h,_,rfl,St1 h rfl fun w h=>?_⟩
        refine⟨r2,r',cr,hcx,hnx,by rw[f3,List.length_append,er];show offs.n+1=_+1;rw[hon],by rw[f1];exact hdn,by rw[f2];exact hrn,?_⟩
        unfold GB
        rw[f1,f2,f3,List.flatMap_append,List.flatMap_singleton]
        exact Sat.drop 2 (((((((((h.mv 4).mv 8).mv 8).mv 3).mv 8).mv 8).mv 8).mv 8).mv 8)
      ·rcases hkd with hk|hk|hk|hk|hk|hk|hk|hk|hk<;>rw[hk]<;>repeat' first
        |exact⟨by simp[isRK,hk],h⟩
        |refine ife (fun _=>?_) fun hh=>absurd rfl hh
        |refine ife (fun hh=>absurd hh (by decide)) fun _=>?_
    ·have e2:IntKind.u32.wrap (uk.n:Int)=(o.key.size:Int):=by rw[hkn,wu32n om]
     rw[e2]
     have hks:offAt l i+1+(vi o.key.size).length<2^32:=by omega
     have hke:offAt l i+1+(vi o.key.size).length+o.key.size<2^32:=by
      obtain⟨tl,ht⟩:=recOp_key o
      have h9:=congrArg List.length ht
      rw[List.length_cons,List.length_append,List.length_append,bl_len]at h9
      rw[List.length_append]at hxl
      omega
     refine ife (fun he=>?_) (fun he=>?_)
     ·have hk0:o.key.size=0:=by omega
      refine St1 h rfl fun w h=>Ld1 h (St1 h rfl fun w h=>?_)
      have e3:IntKind.u32.wrap (((offAt l i:Nat):Int)+(2:Int))=((offAt l i+2:Nat):Int):=by rw[wu32 om om];omega
      rw[e3]at h
      have hv1:(vi 0).length=1:=by rw[vi_lt om];rfl
      rw[hen,hk0,hv1]
      exact h
     ·refine Ld1 h ⟨_,rfl,Ld1 h (St1 h rfl fun w h=>Ld1 h (St1 h rfl fun w h=>?_))⟩
      have e3:IntKind.u32.wrap (IntKind.i64.wrap ((data.c:Int)-(uk.c:Int)))=((offAt l i+1+(vi o.key.size).length:Nat):Int):=by
       rw[wi64 om om]
       have hck:(data.c:Int)-(uk.c:Int)=((offAt l i+1+(vi o.key.size).length:Nat):Int):=by
        have hrl:=recOp_key o
        obtain⟨tl,ht⟩:=hrl
        have h9:=congrArg List.length ht
        rw[List.length_cons,List.length_append,List.length_append,bl_len]at h9
        rw[List.length_append]at hxl
        omega
       rw[hck,wu32n hks]
      have e4:IntKind.u32.wrap (((offAt l i+1+(vi o.key.size).length:Nat):Int)+(o.key.size:Int))=((offAt l i+1+(vi o.key.size).length+o.key.size:Nat):Int):=by rw[wu32 om om];omega
      rw[e3,e4]at h
      rw[hen]
      exact h
 ·rcases hsplit with hnil|⟨o,hio,hil,hdrop,htake⟩
  ·have hil:i=l.length:=by
    have:=congrArg List.length hnil
    rw[List.length_drop,List.length_nil]at this
    omega
   have et:l.take i=l:=by rw[hil,List.take_length]
   rw[et]at hon hdn hrn h
   exact k offs d r w hon hdn hrn h.tail
  ·rw[hdrop,List.flatMap_cons]at hx
   have h1:=hx.n
   obtain⟨tl,ht⟩:=recOp_key o
   rw[List.length_append,ht,List.length_cons]at h1
   dsimp only at hz
   omega
def frS0 (fmt:FV):FrS:=⟨fmt,⟨none,0,0⟩,⟨none,0,0⟩,.nil,⟨none,0,0⟩,⟨none,0,0⟩,[],⟨none,0,0⟩,false⟩
theorem frS0_ok {D fmt}:FrOK D (frS0 fmt) .empty [] [] [] [] .empty:=⟨trivial,rfl,rfl,rfl,empty_le _,FrInv.init⟩
theorem fragNew {E:EmitI}{f:Addr}{fmt:FV}{D R w}(h:Sat w (Arr f [cmpV,fmt.enc,E.em.enc,.slice none 0 0,.slice none 0 0,.nilFunc,.slice none 0 0,.slice none 0 0,.slice none 0 0,.bool false]::Own D::E.C D []::R)):Sat w (FX f E (frS0 fmt) .empty D [] [] R):=by
 have h1:=Sat.splits (w:=w) (p:=f) [[cmpV,fmt.enc,E.em.enc,.slice none 0 0,.slice none 0 0],[.nilFunc,.slice none 0 0],[.slice none 0 0],[.slice none 0 0],[.bool false]] h
 have h2:Sat w (Arr f [cmpV,fmt.enc,E.em.enc,.slice none 0 0,.slice none 0 0]::Arr (f.add 5) [.nilFunc,.slice none 0 0]::Arr (f.add 7) [.slice none 0 0]::Arr (f.add 8) [.slice none 0 0]::Arr (f.add 9) [.bool false]::Own D::E.C D []::R):=h1
 have h3:=(((h2.bufNil 1).bufNil 4).bufNil 4).bufNil 3
 exact(((((((((((h3.mv 3).mv 3).mv 3).mv 10).mv 10).mv 5).mv 10).mv 10).mv 10).mv 10).mv 10)
theorem ents_i : ∀(l:List OpM) (i off:Nat),∀e∈ents i off l,i<=e.i/\e.i<i+l.length
 | [],_,_,e,he=>by simp[ents]at he
 | o :: l, i, off, e, he => by
  rw[List.length_cons]
  rcases List.mem_cons.1 he with rfl|he
  ·exact⟨Nat.le_refl _,by dsimp only;omega⟩
  ·have:=ents_i l (i+1) _ e he
   omega
theorem ents_nd : ∀(l:List OpM) (i off:Nat),(∀o∈l,OpOK o)->((ents i off l).map fun e=>(e.tr:Int)).Nodup
 | [],_,_,_=>List.nodup_nil
 |o::l,i,off,h=>by
  rw[ents,List.map_cons,List.nodup_cons]
  refine⟨fun hm=>?_,ents_nd l _ _ fun x hx=>h x (by simp[hx])⟩
  obtain⟨e,he,heq⟩:=List.mem_map.1 hm
  have h1:=(ents_i l (i+1) _ e he).1
  have h2:o.kind<=23:=by have:=(h o (by simp)).kind;unfold OpKind at this;omega
  unfold EntM.tr at heq
  dsimp only at heq
  omega
theorem ESorted.le {E E':List EntM}(h:ESorted E E'): ∀(i j:Nat) (x y:EntM),i<j->E'[i]? =some x->E'[j]? =some y->bcmp x.op.key y.op.key<=0:=by
 intro i j x y hij ex ey
 have h1:=h.so i j x y hij ex ey
 rw[<-Bool.not_eq_true,entSWO_aux]at h1
 exact not_lt_b.1 fun h2=>h1 (.inl h2)
theorem delPart {nn q:Addr}{fmt}{data offs dd:Sl}{l:List OpM}{Q:List EntM}{D:Hp}{R}{w:World}{J:Unit->WP}(hl: ∀o∈l,OpOK o)(hlen:l.length<=512)(hne:l≠ [])(hc:Cont D data (encL l))(hsz:(encL l).length<2^32-64)(hQ:ESorted ((entL l).filter isDel) Q)(hE:EntAt D dd Q)
  (h:Sat w (Arr q (fbc fmt data offs ⟨none,0,0⟩ ⟨none,0,0⟩)::Arr nn [.pointer (some q)]::Own D::R))
  (k: ∀D' tombs xs out w',D.le D'->SpsRel D' xs out->tombs.n=xs.length->SpansOK out->(∀y,(keysOf out y).Perm (covK (Q.map spanOfT) y))->out.length<=(Q.length+1)*(Q.length+1)->Sat w' (Arr q (fbc fmt data offs tombs ⟨none,0,0⟩)::Buf 4 tombs (xs.flatMap spc)::Arr nn [.pointer (some q)]::Own D'::R)->J () w'):
  (if(decide ((dd.n:Int)>(0:Int)))=true then Ld (.one .ptr) nn (fun(xv39:Option Addr) w=> ∃pv40,xv39=some pv40/\Ld (.one .fn) (pv40.add 0) (fun(cmpv41:FV) w=>Ld (.one .ptr) nn (fun(xv42:Option Addr) w=> ∃pv43,xv42=some pv43/\Ld (.one .fn) (pv43.add 1) (fun(formatKeyv44:FV) w=>Ones [(.func (.func 89) #[] #[.pointer (some nn)]),(FV.enc formatKeyv44),(FV.enc cmpv41)]/\NewP [(FV.enc cmpv41),(FV.enc formatKeyv44),(.func (.func 89) #[] #[.pointer (some nn)]),.slice none 0 0,.slice none 0 0,.nilFunc,.slice none 0 0,.slice none 0 0,.slice none 0 0,.bool false] 257 (fun(nv45:Addr) w=>Ld (.one .ptr) nn (fun(xv46:Option Addr) w=>Ld (.one .ptr) nn (fun(xv47:Option Addr) w=> ∃pv48,xv47=some pv48/\Ld (.one .sl) (pv48.add 2) (fun(datav49:Sl) w=>Ld (.one .ptr) nn (fun(xv50:Option Addr) w=> ∃pv51,xv50=some pv51/\Ld (.one .fn) (pv51.add 0) (fun(cmpv52:FV) w=>Ones [(FV.enc cmpv52)]/\NewP [.pointer xv46,.slice datav49.a datav49.n datav49.c,.slice dd.a dd.n dd.c,(FV.enc cmpv52),.int .i64 (-1:Int),.slice none 0 0,.int .u64 (0:Int),.nilIface,.slice none 0 0,.slice none 0 0] 260 (fun(nv53:Addr) w=>CallF Tryz.prog 90 [.pointer (some nv45),(.iface 258 (.pointer (some nv53))),.int .i64 (dd.n:Int)] [] (fun(rv54:Unit) w=>J () w) w) w) w) w) w) w) w.drew) w) w) w) w) w.drew else J () w):=by
 have hok:=entL_ok hl om hne
 have hEl:=entL_len l
 have hmem: ∀e∈Q,e∈entL l/\isDel e=true:=fun e he=>List.mem_filter.1 (hQ.perm.mem_iff.1 he)
 have hQl:Q.length<=512:=by
  rw[hQ.perm.length_eq]
  exact Nat.le_trans (List.length_filter_le _ _) om
 refine ifd (fun hpos=>?_) (fun hz=>?_)
 ·have hones: ∀g:Fn,Ones [(Value.func g #[] #[.pointer (some nn)]),(FV.enc fmt),(FV.enc (.mk (.func 45) #[] #[]))]:=fun g v hv=>by
   simp only[List.mem_cons,List.not_mem_nil,or_false]at hv
   rcases hv with rfl|rfl|rfl
   ·rfl
   ·exact oneCell_encF fmt
   ·rfl
  unfold fbc at h
  refine Ld1 h ⟨_,rfl,Ld1 h (Ld1 h ⟨_,rfl,Ld1 h ⟨hones _,NewP_run h fun f w h=>Ld1 h (Ld1 h ⟨_,rfl,Ld1 h (Ld1 h ⟨_,rfl,Ld1 h ⟨fun v hv=>by simp only[List.mem_cons,List.not_mem_nil,or_false]at hv;rw[hv];rfl,NewP_run h fun p w h=>?_⟩⟩)⟩)⟩⟩)⟩
  have hne2:Q≠ []:=fun e=>by
   have h9:=hE.1
   rw[e,List.length_nil]at h9
   omega
  have hkind: ∀e∈Q,e.op.kind=15:=fun e he=>by simpa [isDel]using(hmem e he).2
  have hnd:(Q.map fun e=>(e.tr:Int)).Nodup:=by
   have h9:=ents_nd l 0 12 hl
   exact(hQ.perm.map _).nodup_iff.2 ((List.filter_sublist.map _).nodup h9)
  have hcok:TDCOK ⟨D,p,q,nn,f,fmt,data,dd,offs,nl,encL l,Q⟩:=⟨hc,hE,fun e he=>hok e (hmem e he).1,by show(encL l).length<_;omega,hkind,hQ.le,hnd,by show Q.length<_;omega,fun e he=>(hok e (hmem e he).1).i⟩
  have h2:=h.bufNil 4
  have h3:Sat w (Arr q (fbc fmt data offs nl nl)::Buf 4 nl (([]:List SpC).flatMap spc)::Arr nn [.pointer (some q)]::Arr p (itcs q data dd (-1) ⟨none,0,0⟩ 0)::Arr f [cmpV,fmt.enc,(TDCs ⟨D,p,q,nn,f,fmt,data,dd,offs,nl,encL l,Q⟩).em.enc,.slice none 0 0,.slice none 0 0,.nilFunc,.slice none 0 0,.slice none 0 0,.slice none 0 0,.bool false]::Own D::R):=((((((h2.mv 5).mv 3).mv 3).mv 5).mv 4).mv 5)
  have h4:=tdShut (D:=D) (xs:=[]) (rks:=nl) (l:=[]) trivial rfl h3
  have h5:Sat w (Arr f [cmpV,fmt.enc,(TDCs ⟨D,p,q,nn,f,fmt,data,dd,offs,nl,encL l,Q⟩).em.enc,.slice none 0 0,.slice none 0 0,.nilFunc,.slice none 0 0,.slice none 0 0,.slice none 0 0,.bool false]::Own D::(TDCs ⟨D,p,q,nn,f,fmt,data,dd,offs,nl,encL l,Q⟩).C D []::Arr p (itcs q data dd (-1) ⟨none,0,0⟩ 0)::R):=((((h4.mv 1).mv 1).mv 3).mv 3)
  have h6:=fragNew h5
  rw[hE.1]
  refine call90 (frag1:=some f) (it2:=itV p) (count3:=(Q.length:Int)) (spec90 (c:=⟨D,p,q,nn,f,fmt,data,dd,offs,nl,encL l,Q⟩) hcok hne2 (frS0_ok (fmt:=fmt)) h6 fun D' out' w hD h1 h2 h3 h=>?_)
  obtain⟨xs,rks,g1,g2,g3⟩:=tdOpen h.t1
  exact k D' rks xs out' w hD g1 g2 h1 h2 h3 g3
 ·refine k D ⟨none,0,0⟩ [] [] w (Hp.le_refl _) trivial rfl SpansOK.nil (fun y=>?_) (by simp) ((h.bufNil 4).t1)
  have:Q=[]:=by
   have h9:=hE.1
   refine List.length_eq_zero_iff.1 ?_
   omega
  subst this
  exact List.Perm.refl _
set_option maxHeartbeats 4000000 in
theorem rkPart {nn q:Addr}{fmt}{data offs dd tombs:Sl}{l:List OpM}{Q:List EntM}{D:Hp}{R}{w:World}{K:Option Addr×IV->WP}(hl: ∀o∈l,OpOK o)(hlen:l.length<=512)(hne:l≠ [])(hc:Cont D data (encL l))(hsz:(encL l).length<2^32-64)(hQ:ESorted ((entL l).filter isRK) Q)(hE:EntAt D dd Q)
  (h:Sat w (Arr q (fbc fmt data offs tombs ⟨none,0,0⟩)::Arr nn [.pointer (some q)]::Own D::R))
  (k: ∀D' rks xs out w',D.le D'->SpsRel D' xs out->rks.n=xs.length->SpansOK out->(∀y,(keysOf out y).Perm (covK (Q.map spanOf) y))->out.length<=(Q.length+1)*(Q.length+1)->Sat w' (Arr q (fbc fmt data offs tombs rks)::Buf 4 rks (xs.flatMap spc)::Own D'::R)->K (some q,.nil) w'):
  (if(decide ((dd.n:Int)>(0:Int)))=true then Ld (.one .ptr) nn (fun(xv18:Option Addr) w=> ∃pv19,xv18=some pv19/\Ld (.one .fn) (pv19.add 0) (fun(cmpv20:FV) w=>Ld (.one .ptr) nn (fun(xv21:Option Addr) w=> ∃pv22,xv21=some pv22/\Ld (.one .fn) (pv22.add 1) (fun(formatKeyv23:FV) w=>Ones [(.func (.func 91) #[] #[.pointer (some nn)]),(FV.enc formatKeyv23),(FV.enc cmpv20)]/\NewP [(FV.enc cmpv20),(FV.enc formatKeyv23),(.func (.func 91) #[] #[.pointer (some nn)]),.slice none 0 0,.slice none 0 0,.nilFunc,.slice none 0 0,.slice none 0 0,.slice none 0 0,.bool false] 257 (fun(nv24:Addr) w=>Ld (.one .ptr) nn (fun(xv25:Option Addr) w=>Ld (.one .ptr) nn (fun(xv26:Option Addr) w=> ∃pv27,xv26=some pv27/\Ld (.one .sl) (pv27.add 2) (fun(datav28:Sl) w=>Ld (.one .ptr) nn (fun(xv29:Option Addr) w=> ∃pv30,xv29=some pv30/\Ld (.one .fn) (pv30.add 0) (fun(cmpv31:FV) w=>Ones [(FV.enc cmpv31)]/\NewP [.pointer xv25,.slice datav28.a datav28.n datav28.c,.slice dd.a dd.n dd.c,(FV.enc cmpv31),.int .i64 (-1:Int),.slice none 0 0,.int .u64 (0:Int),.nilIface,.slice none 0 0,.slice none 0 0] 260 (fun(nv32:Addr) w=>CallF Tryz.prog 92 [.pointer (some nv24),(.iface 258 (.pointer (some nv32))),.int .i64 (dd.n:Int)] [(.one .ifc)] (fun(rv33:IV) w=>Ld (.one .ptr) nn (fun(xv34:Option Addr) w=>decI .nilIface (fun iv35=>K (xv34,iv35) w)) w) w) w) w) w) w) w) w.drew) w) w) w) w) w.drew else Ld (.one .ptr) nn (fun(xv36:Option Addr) w=>decI .nilIface (fun iv37=>K (xv36,iv37) w)) w):=by
 have hok:=entL_ok hl om hne
 have hEl:=entL_len l
 have hmem: ∀e∈Q,e∈entL l/\isRK e=true:=fun e he=>List.mem_filter.1 (hQ.perm.mem_iff.1 he)
 have hQl:Q.length<=512:=by
  rw[hQ.perm.length_eq]
  exact Nat.le_trans (List.length_filter_le _ _) om
 refine ifd (fun hpos=>?_) (fun hz=>?_)
 ·have hones: ∀g:Fn,Ones [(Value.func g #[] #[.pointer (some nn)]),(FV.enc fmt),(FV.enc (.mk (.func 45) #[] #[]))]:=fun g v hv=>by
   simp only[List.mem_cons,List.not_mem_nil,or_false]at hv
   rcases hv with rfl|rfl|rfl
   ·rfl
   ·exact oneCell_encF fmt
   ·rfl
  unfold fbc at h
  refine Ld1 h ⟨_,rfl,Ld1 h (Ld1 h ⟨_,rfl,Ld1 h ⟨hones _,NewP_run h fun f w h=>Ld1 h (Ld1 h ⟨_,rfl,Ld1 h (Ld1 h ⟨_,rfl,Ld1 h ⟨fun v hv=>by simp only[List.mem_cons,List.not_mem_nil,or_false]at hv;rw[hv];rfl,NewP_run h fun p w h=>?_⟩⟩)⟩)⟩⟩)⟩
  have hne2:Q≠ []:=fun e=>by
   have h9:=hE.1
   rw[e,List.length_nil]at h9
   omega
  have hkind: ∀e∈Q,e.op.kind=19\/e.op.kind=20\/e.op.kind=21:=fun e he=>by simpa [isRK]using(hmem e he).2
  have hnd:(Q.map fun e=>(e.tr:Int)).Nodup:=by
   have h9:=ents_nd l 0 12 hl
   exact(hQ.perm.map _).nodup_iff.2 ((List.filter_sublist.map _).nodup h9)
  have hcok:RKCOK ⟨D,p,q,nn,f,fmt,data,dd,offs,tombs,encL l,Q⟩:=⟨hc,hE,fun e he=>hok e (hmem e he).1,by show(encL l).length<_;omega,hkind,hQ.le,hnd,by show Q.length<_;omega,fun e he=>(hok e (hmem e he).1).i⟩
  have h2:=h.bufNil 4
  have h3:Sat w (Arr q (fbc fmt data offs tombs nl)::Buf 4 nl (([]:List SpC).flatMap spc)::Arr nn [.pointer (some q)]::Arr p (itcs q data dd (-1) ⟨none,0,0⟩ 0)::Arr f [cmpV,fmt.enc,(RKCs ⟨D,p,q,nn,f,fmt,data,dd,offs,tombs,encL l,Q⟩).em.enc,.slice none 0 0,.slice none 0 0,.nilFunc,.slice none 0 0,.slice none 0 0,.slice none 0 0,.bool false]::Own D::R):=((((((h2.mv 5).mv 3).mv 3).mv 5).mv 4).mv 5)
  have h4:=rkShut (D:=D) (xs:=[]) (rks:=nl) (l:=[]) trivial rfl h3
  have h5:Sat w (Arr f [cmpV,fmt.enc,(RKCs ⟨D,p,q,nn,f,fmt,data,dd,offs,tombs,encL l,Q⟩).em.enc,.slice none 0 0,.slice none 0 0,.nilFunc,.slice none 0 0,.slice none 0 0,.slice none 0 0,.bool false]::Own D::(RKCs ⟨D,p,q,nn,f,fmt,data,dd,offs,tombs,encL l,Q⟩).C D []::Arr p (itcs q data dd (-1) ⟨none,0,0⟩ 0)::R):=((((h4.mv 1).mv 1).mv 3).mv 3)
  have h6:=fragNew h5
  rw[hE.1]
  refine call92 (frag1:=some f) (it2:=itV p) (count3:=(Q.length:Int)) (spec92 (c:=⟨D,p,q,nn,f,fmt,data,dd,offs,tombs,encL l,Q⟩) hcok hne2 (frS0_ok (fmt:=fmt)) h6 fun D' out' w hD h1 h2 h3 h=>?_)
  obtain⟨xs,rks,g1,g2,g3⟩:=rkOpen h.t1
  refine Ld1 g3 (decI_nil ?_)
  exact k D' rks xs out' w hD g1 g2 h1 h2 h3 (((g3.mv 2).tail))
 ·refine Ld1 h (decI_nil ?_)
  refine k D ⟨none,0,0⟩ [] [] w (Hp.le_refl _) trivial rfl SpansOK.nil (fun y=>?_) (by simp) (((h.mv 1).tail.bufNil 4).t1)
  have:Q=[]:=by
   have h9:=hE.1
   refine List.length_eq_zero_iff.1 ?_
   omega
  subst this
  exact List.Perm.refl _
theorem covK_perm {a b:List SpanM}(h:a.Perm b)(y:ByteArray):(covK a y).Perm (covK b y):=(h.filter _).flatMap_right _
theorem sq_mono {a b:Nat}(h:a<=b):(a+1)*(a+1)<=(b+1)*(b+1):=Nat.mul_le_mul om om
structure FBR (D:Hp)(l:List OpM)(data offs tombs rks:Sl)(P:List EntM)(xs ys:List SpC)(dels rngs:List SpanM):Prop where
 hc:Cont D data (encL l)
 hP:ESorted ((entL l).filter isPt) P
 hE:EntAt D offs P
 t1:SpsRel D xs dels
 t2:tombs.n=xs.length
 t3:SpansOK dels
 t5:dels.length<=(l.length+1)*(l.length+1)
 r1:SpsRel D ys rngs
 r2:rks.n=ys.length
 r3:SpansOK rngs
 t4: ∀y,(keysOf dels y).Perm (covK (((entL l).filter isDel).map spanOfT) y)
 r4: ∀y,(keysOf rngs y).Perm (covK (((entL l).filter isRK).map spanOf) y)
 r5:rngs.length<=(l.length+1)*(l.length+1)
set_option maxHeartbeats 4000000 in
theorem specB44 {b nn q:Addr}{fmt}{s:BtS}{offs0:Sl}{l:List OpM}{D:Hp}{R w}{K:Option Addr×IV->WP}(hl: ∀o∈l,OpOK o)(hlen:l.length<=512)(hne:l≠ [])(hc:Cont D s.data (encL l))(hsz:(encL l).length<2^32-64)(ho:offs0.n=0)
  (h:Sat w (Arr nn [.pointer (some q)]::Arr q (fbc fmt s.data offs0 ⟨none,0,0⟩ ⟨none,0,0⟩)::Buf 4 offs0 []::Own D::Arr b (btc s)::R))
  (k: ∀D' offs tombs rks P xs ys dels rngs w',D.le D'->FBR D' l s.data offs tombs rks P xs ys dels rngs->Sat w' (Arr q (fbc fmt s.data offs tombs rks)::Buf 4 rks (ys.flatMap spc)::Own D'::Buf 4 tombs (xs.flatMap spc)::Arr b (btc s)::R)->K (some q,.nil) w'):B44 (some b) nn K w:=by
 have e1:encL l=z12++l.flatMap recOp:=if_neg hne
 have hc':=hc
 rw[e1]at hc'
 unfold B44
 refine⟨fun _ w=>Sat w (Arr nn [.pointer (some q)]::Arr q (fbc fmt s.data offs0 ⟨none,0,0⟩ ⟨none,0,0⟩)::Buf 4 offs0 []::Own D::Arr b (btc s)::R),?_,?_⟩
 ·clear h
  intro _ w h
  refine⟨fun(sv:Sl×Sl) w=> ∃offs,offs.n=((entL l).filter isPt).length/\sv.1.n=((entL l).filter isDel).length/\sv.2.n=((entL l).filter isRK).length/\Sat w (GB nn q fmt s.data offs sv.1 sv.2 (entL l) D (Arr b (btc s)::R)),?_,?_⟩
  ·clear h
   rintro⟨d,r⟩ w ⟨offs,h1,h2,h3,h⟩
   dsimp only at h1 h2 h3
   have hok:=entL_ok hl om hne
   have hEl:=entL_len l
   unfold GB at h
   have h4:=(((((((h.mv 6).mv 5).mv 5).mv 3).mv 6).mv 5).mv 6)
   simp only[mv]at h4
   clear h
   have h:=h4
   unfold fbc at h
   refine Ld1 h ⟨_,rfl,Ld1 h (Ld1 h ?_)⟩
   refine sortOffs (E:=(entL l).filter isPt) hc (fun e he=>hok e (List.mem_filter.1 he).1) h1 (Nat.lt_of_le_of_lt (List.length_filter_le _ _) om) h4 fun P w hP h=>?_
   clear h4
   unfold fbc at h
   refine Ld1 h ⟨_,rfl,St1 h rfl fun w h=>Ld1 h ?_⟩
   have h4:Sat w (Buf 4 d (((entL l).filter isDel).flatMap ec)::Arr q (fbc fmt s.data d ⟨none,0,0⟩ ⟨none,0,0⟩)::Own D::Buf 4 offs (P.flatMap ec)::Arr nn [.pointer (some q)]::Buf 4 r (((entL l).filter isRK).flatMap ec)::Arr b (btc s)::R):=(((((((h.mv 6).mv 6).mv 5).mv 3).mv 5).mv 5).mv 6)
   clear h
   refine sortOffs (E:=(entL l).filter isDel) hc (fun e he=>hok e (List.mem_filter.1 he).1) h2 (Nat.lt_of_le_of_lt (List.length_filter_le _ _) om) h4 fun Q w hQ h=>?_
   clear h4
   unfold fbc at h
   refine Ld1 h ⟨_,rfl,St1 h rfl fun w h=>Ld1 h ?_⟩
   have h4:Sat w (Buf 4 r (((entL l).filter isRK).flatMap ec)::Arr q (fbc fmt s.data r ⟨none,0,0⟩ ⟨none,0,0⟩)::Own D::Buf 4 d (Q.flatMap ec)::Buf 4 offs (P.flatMap ec)::Arr nn [.pointer (some q)]::Arr b (btc s)::R):=(((((((h.mv 6).mv 5).mv 5).mv 3).mv 5).mv 5).mv 6)
   clear h
   refine sortOffs (E:=(entL l).filter isRK) hc (fun e he=>hok e (List.mem_filter.1 he).1) h3 (Nat.lt_of_le_of_lt (List.length_filter_le _ _) om) h4 fun S w hS h=>?_
   clear h4
   unfold fbc at h
   refine Ld1 h ⟨_,rfl,St1 h rfl fun w h=>?_⟩
   have h5:Sat w (Own D::Buf 4 r (S.flatMap ec)::Arr q (fbc fmt s.data offs nl nl)::Buf 4 d (Q.flatMap ec)::Buf 4 offs (P.flatMap ec)::Arr nn [.pointer (some q)]::Arr b (btc s)::R):=(((((((h.mv 6).mv 6).mv 6).mv 6).mv 5).mv 5).mv 6)
   clear h
   obtain⟨G1,l1,e1,h6⟩:=entAbs (h3.trans hS.perm.length_eq.symm) h5
   have h7:Sat w (Own G1::Buf 4 d (Q.flatMap ec)::Arr q (fbc fmt s.data offs nl nl)::Buf 4 offs (P.flatMap ec)::Arr nn [.pointer (some q)]::Arr b (btc s)::R):=((((((h6.mv 5).mv 5).mv 5).mv 4).mv 5).mv 5)
   obtain⟨G2,l2,e2,h8⟩:=entAbs (h2.trans hQ.perm.length_eq.symm) h7
   have h9:Sat w (Own G2::Buf 4 offs (P.flatMap ec)::Arr q (fbc fmt s.data offs nl nl)::Arr nn [.pointer (some q)]::Arr b (btc s)::R):=(((((h8.mv 4).mv 4).mv 3).mv 4).mv 4)
   obtain⟨G3,l3,e3,h10⟩:=entAbs (h1.trans hP.perm.length_eq.symm) h9
   have h11:Sat w (Arr q (fbc fmt s.data offs nl nl)::Arr nn [.pointer (some q)]::Own G3::Arr b (btc s)::R):=((((h10.mv 3).mv 1).mv 3).mv 3)
   have lG:=l1.trans (l2.trans l3)
   clear h5 h6 h7 h8 h9 h10
   refine⟨fun _ w=> ∃D' tombs xs out,G3.le D'/\SpsRel D' xs out/\tombs.n=xs.length/\SpansOK out/\(∀y,(keysOf out y).Perm (covK (Q.map spanOfT) y))/\out.length<=(Q.length+1)*(Q.length+1)/\Sat w (Arr q (fbc fmt s.data offs tombs nl)::Buf 4 tombs (xs.flatMap spc)::Arr nn [.pointer (some q)]::Own D'::Arr b (btc s)::R),?_,?_⟩
   ·clear h11
    rintro _ w ⟨D',tombs,xs,out,g1,g2,g3,g4,g5,g6,h⟩
    refine rkPart (R:=Buf 4 tombs (xs.flatMap spc)::Arr b (btc s)::R) hl hlen hne (hc.mono (lG.trans g1)) hsz hS (e1.mono ((l2.trans l3).trans g1)) (((((h.mv 4).mv 2).mv 4).mv 4).mv 4) fun D2 rks ys out2 w f1 f2 f3 f4 f5 f6 h=>?_
    have hQl:Q.length<=l.length:=by rw[hQ.perm.length_eq];exact Nat.le_trans (List.length_filter_le _ _) (Nat.le_of_eq hEl)
    have hSl:S.length<=l.length:=by rw[hS.perm.length_eq];exact Nat.le_trans (List.length_filter_le _ _) (Nat.le_of_eq hEl)
    exact k D2 offs tombs rks P xs ys out out2 w ((lG.trans g1).trans f1) ⟨hc.mono ((lG.trans g1).trans f1),hP,e3.mono (g1.trans f1),g2.mono f1,g3,g4,Nat.le_trans g6 (sq_mono hQl),f2,f3,f4,fun y=>(g5 y).trans (covK_perm (hQ.perm.map _) y),fun y=>(f5 y).trans (covK_perm (hS.perm.map _) y),Nat.le_trans f6 (sq_mono hSl)⟩ h
   ·exact delPart (J:=fun _ w=> ∃D' tombs xs out,G3.le D'/\SpsRel D' xs out/\tombs.n=xs.length/\SpansOK out/\(∀y,(keysOf out y).Perm (covK (Q.map spanOfT) y))/\out.length<=(Q.length+1)*(Q.length+1)/\Sat w (Arr q (fbc fmt s.data offs tombs nl)::Buf 4 tombs (xs.flatMap spc)::Arr nn [.pointer (some q)]::Own D'::Arr b (btc s)::R)) hl hlen hne (hc.mono lG) hsz hQ (e2.mono l3) h11 fun D' tombs xs out w g1 g2 g3 g4 g5 g6 h=>⟨D',tombs,xs,out,g1,g2,g3,g4,g5,g6,h⟩
  ·have h0:=h
   unfold fbc at h
   refine Ld1 h ⟨_,rfl,Ld1 h ?_⟩
   refine ifd (fun _=>?_) (fun hh=>?_)
   ·have hn12:12<=s.data.n:=by rw[hc'.n,List.length_append];show 12<=12+_;omega
    refine Ld1 h ⟨_,rfl,Ld1 h ⟨⟨by omega,by dsimp only;omega⟩,?_⟩⟩
    have hx:=hc'.tail (p:=12) om
    rw[List.drop_left' (show z12.length=12 from rfl)]at hx
    refine NewP_run h fun n76 w h=>St1 h rfl fun w h=>?_
    refine gatherE (q:=q) (fmt:=fmt) (K:=K) (J:=fun(sv:Sl×Sl) w=> ∃offs,offs.n=((entL l).filter isPt).length/\sv.1.n=((entL l).filter isDel).length/\sv.2.n=((entL l).filter isRK).length/\Sat w (GB nn q fmt s.data offs sv.1 sv.2 (entL l) D (Arr b (btc s)::R))) (x0:=⟨(sub s.data.a 1 12 s.data.n s.data.c).a,s.data.n-12,s.data.c-12⟩) (offs0:=offs0) (R:=Arr b (btc s)::R) hl hlen hc hne hsz hx rfl ho ?_ ?_
    ·have h5:Sat w (Arr n76 [.slice (sub s.data.a 1 12 s.data.n s.data.c).a (s.data.n-12) (s.data.c-12)]::Arr nn [.pointer (some q)]::Arr q (fbc fmt s.data offs0 ⟨none,0,0⟩ ⟨none,0,0⟩)::Buf 4 offs0 []::Own D::Arr b (btc s)::R):=h
     have h6:=((h5.bufNil 4).bufNil 4)
     exact((((((((h6.mv 7).mv 7).mv 2).mv 3).mv 7).mv 7).mv 7).mv 7)
    ·intro offs d r w h1 h2 h3 h
     exact⟨offs,h1,h2,h3,h⟩
   ·exfalso
    obtain⟨o,l',rfl⟩: ∃o l',l=o::l':=by
     cases l with
     |nil=>exact absurd rfl hne
     |cons o l'=>exact⟨o,l',rfl⟩
    have h9:=hc'.n
    obtain⟨tl,ht⟩:=recOp_key o
    rw[List.length_append,List.flatMap_cons,List.length_append,ht,List.length_cons]at h9
    have:z12.length=12:=rfl
    dsimp only at hh
    omega
 ·have h0:=h
  unfold fbc at h
  refine Ld1 h ⟨_,rfl,Ld1 h ?_⟩
  refine ifn (fun _=>Ld1 h (call86 (spec86 hc' h0.near .k3 .k4 fun w h=>?_))) (fun _=>h0)
  unfold fbc at h
  exact⟨LdAt1 h,_,rfl,St1 h rfl fun w h=>h⟩
theorem Sat.buf0 {w L}{k:Nat}{p:Addr}{c:Nat}{sp:List Value}(hl:sp.length=c*k)(h:Sat w (Arr p sp::L)):Sat w (Buf k ⟨some p,0,c⟩ []::L):=h.cons fun g hg=>⟨by simp,sp,by simpa using hl,hg⟩
theorem zrep243 (n:Nat):(zrep si243.l n).length=n*4:=by
 unfold zrep
 induction n with
 |zero=>rfl
 |succ n ih=>rw[List.replicate_succ,List.flatten_cons,List.length_append,ih,List.length_map];show 4+_=_;omega
set_option maxHeartbeats 4000000 in
theorem spec44 {b cq:Addr}{s:BtS}{l:List OpM}{D:Hp}{R w}{K:Option Addr×IV->WP}(hl: ∀o∈l,OpOK o)(hlen:l.length<=512)(hne:l≠ [])(hc:Cont D s.data (encL l))(hcnt:s.cnt=l.length)(h:Sat w (Arr b (btc s)::Arr cq cmpCs::Own D::R))
  (k: ∀D' q offs tombs rks P xs ys dels rngs w',D.le D'->FBR D' l s.data offs tombs rks P xs ys dels rngs->Sat w' (Arr q (fbc .nil s.data offs tombs rks)::Buf 4 rks (ys.flatMap spc)::Own D'::Buf 4 tombs (xs.flatMap spc)::Arr b (btc s)::Arr cq cmpCs::R)->K (some q,.nil) w'):F44 (some b) (some cq) K w:=by
 have hsz:(encL l).length<2^32-64:=by
  have:=encL_len hl
  omega
 have hc2:s.cnt<2^32:=by omega
 have fin: ∀(q nn p:Addr) (w:World),Sat w (Arr nn [.pointer (some q)]::Arr q (fbc .nil s.data ⟨some p,0,s.cnt⟩ nl nl)::Buf 4 ⟨some p,0,s.cnt⟩ []::Own D::Arr b (btc s)::Arr cq cmpCs::R)->B44 (some b) nn K w:=fun q nn p w h=>
  specB44 hl hlen hne hc hsz rfl h fun D' offs tombs rks P xs ys dels rngs w hD hf h=>k D' q offs tombs rks P xs ys dels rngs w hD hf h
 have hmb:(0:Int)<=0/\(0:Int)<=(s.cnt:Int)/\(si243.by_:Int)*(s.cnt:Int)<=281474976710656/\(s.cnt:Int)<=9223372036854775807:=⟨Int.le_refl _,by omega,by show(16:Int)*_<=_;omega,by omega⟩
 have hz:=zrep243 (s.cnt:Int).toNat
 rw[Int.toNat_natCast]at hz
 have hones: ∀v∈[(FV.enc .nil),cmpV],v.oneCell'=true:=ones_of rfl
 unfold F44
 have hd:=h
 unfold btc cmpCs at hd
 refine⟨_,rfl,Ld1 hd ⟨_,rfl,Ld1 hd ⟨_,rfl,Ld1 hd ?_⟩⟩⟩
 clear hd
 replace h:=h.near (w':=w.drew)
 have T: ∀{w} {L0:List Chunk},Sat w (L0++Arr b (btc s)::Arr cq cmpCs::Own D::R)->LdAt (.one .fn) (cq.add 3) (.nil:FV) w/\LdAt (.one .fn) (cq.add 0) (.mk (.func 45) #[] #[]:FV) w/\LdAt (.one .sl) ((b.add 0).add 0) s.data w:=by
  intro w L0 h
  have h1:Sat w (Arr b (btc s)::Arr cq cmpCs::Own D::R):=by
   have:=Sat.drop L0.length h
   rwa[List.drop_left]at this
  unfold btc cmpCs at h1
  exact⟨LdAt1 h1,LdAt1 h1,LdAt1 h1⟩
 refine⟨?_,?_⟩
 ·refine call85 (spec85 hc2 h .here fun h=>?_)
  obtain⟨t1,t2,t3⟩:=T (L0:=[]) h
  refine⟨t1,t2,t3,?_,?_⟩
  ·refine MakeP_run h hmb fun p w h=>?_
   rw[Int.toNat_natCast]at h|-
   obtain⟨t1,t2,t3⟩:=T (L0:=[_]) h
   refine⟨t1,t2,t3,hones,?_,?_⟩
   ·refine NewP_run h fun q w h=>NewP_run h fun nn w h=>St1 h rfl fun w h=>fin q nn p w ?_
    exact(((((((Sat.buf0 hz (h.mv 2)).mv 4).mv 4).mv 5).mv 3).mv 5).mv 5)
   ·refine NewP_run h fun nn w h=>?_
    obtain⟨t1,t2,t3⟩:=T (L0:=[_,_]) h
    refine⟨t1,t2,t3,NewP_run h fun q w h=>St1 h rfl fun w h=>fin q nn p w ?_⟩
    exact(((((((Sat.buf0 hz (h.mv 2)).mv 4).mv 4).mv 5).mv 3).mv 4).mv 5)
  ·refine NewP_run h fun nn w h=>?_
   obtain⟨t1,t2,t3⟩:=T (L0:=[_]) h
   refine⟨t1,t2,t3,MakeP_run h hmb fun p w h=>?_⟩
   rw[Int.toNat_natCast]at h|-
   obtain⟨t1,t2,t3⟩:=T (L0:=[_,_]) h
   refine⟨t1,t2,t3,hones,NewP_run h fun q w h=>St1 h rfl fun w h=>fin q nn p w ?_⟩
   exact(((((((Sat.buf0 hz (h.mv 1)).mv 4).mv 4).mv 5).mv 3).mv 4).mv 5)
 ·refine NewP_run h fun nn w h=>?_
  obtain⟨t1,t2,t3⟩:=T (L0:=[_]) h
  refine⟨t1,t2,t3,call85 (spec85 hc2 h .k1 fun h=>?_)⟩
  refine⟨t1,t2,t3,MakeP_run h hmb fun p w h=>?_⟩
  rw[Int.toNat_natCast]at h|-
  obtain⟨t1,t2,t3⟩:=T (L0:=[_,_]) h
  refine⟨t1,t2,t3,hones,NewP_run h fun q w h=>St1 h rfl fun w h=>fin q nn p w ?_⟩
  exact(((((((Sat.buf0 hz (h.mv 1)).mv 4).mv 4).mv 5).mv 3).mv 4).mv 5)
theorem spec53 {q:Addr}{fmt}{data offs tombs rks:Sl}{R w}{K:IV->WP}(h:Sat w (Arr q (fbc fmt data offs tombs rks)::R))
  (k: ∀p w',Sat w' (Arr p (itcs q data offs (-1) ⟨none,0,0⟩ 0)::Arr q (fbc fmt data offs tombs rks)::R)->K (itV p) w'):F53 (some q) none K w:=by
 unfold F53
 have h0:=h
 unfold fbc at h
 refine⟨_,rfl,Ld1 h ⟨_,rfl,Ld1 h ⟨_,rfl,Ld1 h ?_⟩⟩⟩
 refine call96 ?_
 unfold F96
 refine ift rfl ⟨LdAt1 h,LdAt1 h,LdAt1 h,call97 ?_⟩
 unfold F97
 refine ift rfl ⟨LdAt1 h,LdAt1 h,LdAt1 h,ones_of rfl,NewP_run h0 fun p w h=>⟨itV p,rfl,k p w h⟩⟩
theorem spec25 {q:Addr}{fmt}{data offs tombs rks:Sl}{R w}{K:IV->WP}(h:Sat w (Arr q (fbc fmt data offs tombs rks)::R))
  (k: ∀p w',Sat w' (Arr p (itcs q data offs (-1) ⟨none,0,0⟩ 0)::Arr q (fbc fmt data offs tombs rks)::R)->K (itV p) w'):F25 (some q) none K w:=by
 unfold F25
 exact call53 (spec53 h fun p w h=>decI_enc (k p w h))
theorem spec23 {b cq:Addr}{s:BtS}{l:List OpM}{D:Hp}{R w}{K:Option Addr×IV->WP}(hl: ∀o∈l,OpOK o)(hlen:l.length<=512)(hne:l≠ [])(hc:Cont D s.data (encL l))(hcnt:s.cnt=l.length)(h:Sat w (Arr b (btc s)::Arr cq cmpCs::Own D::R))
  (k: ∀D' q offs tombs rks P xs ys dels rngs w',D.le D'->FBR D' l s.data offs tombs rks P xs ys dels rngs->Sat w' (Arr q (fbc .nil s.data offs tombs rks)::Buf 4 rks (ys.flatMap spc)::Own D'::Buf 4 tombs (xs.flatMap spc)::Arr b (btc s)::Arr cq cmpCs::R)->K (some q,.nil) w'):F23 (some b) (some cq) K w:=by
 unfold F23
 exact call44 (spec44 hl hlen hne hc hcnt h fun D' q offs tombs rks P xs ys dels rngs w hD hf h=>decI_enc (x:=.nil) (k D' q offs tombs rks P xs ys dels rngs w hD hf h))
theorem spsAbs {D:Hp}{x:Sl}{acc:List SpC}{ss:List SpanM}{L w}(hrel:SpsRel D acc ss)(hn:x.n=acc.length)(h:Sat w (Own D::Buf 4 x (acc.flatMap spc)::L)):
  ∃G e,D.le G/\(0<ss.length->x=⟨sle e ss.length,ss.length,x.c⟩)/\SpsRel G acc ss/\(∀(j:Nat) (y:SpC),acc[j]? =some y-> ∀(m:Nat) (v:Value),(spc y)[m]? =some v->DAt G ((e.add (j*4)).add m) v)/\x.n=ss.length/\Sat w (Own G::L):=by
 obtain⟨G,h1,h2,h3⟩:=bufAbs h
 have hlen:=hrel.len
 obtain⟨a,n,c⟩:=x
 dsimp only at hn h2
 refine⟨G,a.getD ⟨0,0,none⟩,h1,fun h0=>?_,hrel.mono h1,fun j y hy m v hv=>?_,by dsimp only;omega,h3⟩
 ·subst hn
  have hx:acc[0]? =some acc[0]:=List.getElem?_eq_getElem om
  generalize acc[0]=y at hx
  obtain⟨a',ha',_⟩:=h2 (0*4+0) _ (flat_get (f:=spc) (k:=4) acc (fun _=>rfl) 0 0 y _ hx rfl)
  subst ha'
  dsimp only[Option.getD_some]
  rw[sle_pos h0,hlen]
 ·obtain⟨a',ha',hd⟩:=h2 (j*4+m) v (flat_get (f:=spc) (k:=4) acc (fun _=>rfl) j m y v hy hv)
  subst ha'
  rw[Addr.add_add];exact hd
structure PlM where
 lo:ByteArray
 hi:ByteArray
 kx:Sl
 keys:List KeyM
def PlM.sp (x:PlM):SpanM:=⟨x.lo,x.hi,x.keys⟩
def plc (x:PlM):List Value:=[.string x.lo,.string x.hi,.slice x.kx.a x.kx.n x.kx.c]
theorem plc_one (x:PlM): ∀v∈plc x,v.oneCell'=true:=ones_of rfl
def pld :PlM:=⟨.empty,.empty,nl,[]⟩
def plF (ps:List PlM)(i:Nat):Chunk:=Buf 3 (ps.getD i pld).kx ((ps.getD i pld).keys.flatMap pkc)
def PSp (out:Sl)(ps:List PlM):Chunk:=fun g=>out.n=ps.length/\(∀x∈ps,x.kx.n=x.keys.length)/\Star (Buf 3 out (ps.flatMap plc)) (Fam ps.length (plF ps)) g
theorem pspOpen {out:Sl}{ps:List PlM}{L w}(h:Sat w (PSp out ps::L)):out.n=ps.length/\(∀x∈ps,x.kx.n=x.keys.length)/\Sat w (Buf 3 out (ps.flatMap plc)::Fam ps.length (plF ps)::L):=by
 obtain⟨g,⟨h1,h2,h3⟩,hg⟩:=h
 exact⟨h1,h2,Sat.star.1 ⟨g,h3,hg⟩⟩
theorem pspShut {out:Sl}{ps:List PlM}{L w}(h1:out.n=ps.length)(h2: ∀x∈ps,x.kx.n=x.keys.length)(h:Sat w (Buf 3 out (ps.flatMap plc)::Fam ps.length (plF ps)::L)):Sat w (PSp out ps::L):=
 (Sat.star.2 h).cons fun _ hg=>⟨h1,h2,hg⟩
theorem pspNil {L w}(h:Sat w L):Sat w (PSp nl []::L):=pspShut rfl (fun x hx=>by cases hx) (Sat.bufNil 3 (SatU.nil (fun _=>rfl) h))
theorem pspSnoc {r:Sl}{ps:List PlM}{x:PlM}{L w}(h1:r.n=ps.length+1)(h2: ∀x∈ps,x.kx.n=x.keys.length)(h3:x.kx.n=x.keys.length)
  (h:Sat w (Buf 3 r (ps.flatMap plc++plc x)::Buf 3 x.kx (x.keys.flatMap pkc)::Fam ps.length (plF ps)::L)):Sat w (PSp r (ps++[x])::L):=by
 refine pspShut (by rw[h1,List.length_append];rfl) (fun y hy=>?_) ?_
 ·rcases List.mem_append.1 hy with hy|hy
  ·exact h2 y hy
  ·rw[List.mem_singleton.1 hy];exact h3
 ·rw[List.flatMap_append,List.flatMap_singleton,List.length_append]
  have e1:Fam (ps.length+ [x].length) (plF (ps++[x]))=Star (Buf 3 x.kx (x.keys.flatMap pkc)) (Fam ps.length (plF ps)):=by
   show Star (plF (ps++[x]) ps.length) (Fam ps.length (plF (ps++[x])))=_
   congr 1
   ·unfold plF;rw[getD_app]
   ·exact Fam.congr fun i hi=>by unfold plF;rw[getD_app_lt hi]
  rw[e1]
  exact SatU.under (fun _=>SatU.star.2) _ h
theorem KRel.get {D}: ∀{a:List KC} {b:List KeyM},KRel D a b->a.length=b.length/\ ∀(j:Nat) (k:KC) (m:KeyM),a[j]? =some k->b[j]? =some m->k.1=m.tr/\BytesAt D k.2.1 m.suf/\BytesAt D k.2.2 m.val
 | [],[],_=>⟨rfl,fun j k m h=>by simp at h⟩
 | [],_::_,h=>h.elim
 |_::_,[],h=>h.elim
 |k::ks,m::ms,h=>by
  obtain⟨h1,h2⟩:=h
  obtain⟨g1,g2⟩:=KRel.get h2
  refine⟨by simp[g1],fun j k' m' e1 e2=>?_⟩
  cases j with
  |zero=>simp only[List.getElem?_cons_zero,Option.some.injEq]at e1 e2;subst e1 e2;exact h1
  |succ j=>exact g2 j k' m' (by simpa using e1) (by simpa using e2)
theorem KeysAt.rd {D}{x:Sl}{ks:List KeyM}(h:KeysAt D x ks): ∃kg:Nat->KC,∀{w L R},Sat w L->Take L (Own D) R->KSRd w x kg ks:=by
 obtain⟨cs,⟨h1,h2⟩,h3⟩:=h
 obtain⟨g1,g2⟩:=h3.get
 refine⟨fun j=>cs.getD j kd,fun {w L R} h t=>⟨by omega,fun j hj=>?_⟩⟩
 have hc:cs[j]? =some cs[j]:=List.getElem?_eq_getElem om
 have hm:ks[j]? =some ks[j]:=List.getElem?_eq_getElem hj
 obtain⟨a,ha,hd⟩:=h2 j _ hc
 obtain⟨f1,f2,f3⟩:=g2 j _ _ hc hm
 have e:cs.getD j kd=cs[j]:=by rw[List.getD_eq_getElem?_getD,hc];rfl
 dsimp only
 rw[e]
 exact⟨a,ha,fun i v ev=>h.dat t (hd i v ev),f1,h.rdB t f2,h.rdB t f3⟩
set_option maxHeartbeats 1000000 in
theorem spec28 {D}{i e:Addr}{n c:Nat}{acc:List SpC}{ss:List SpanM}{R w}{K:Sl->WP}(hrel:SpsRel D acc ss)(hrows: ∀(j:Nat) (y:SpC),acc[j]? =some y-> ∀(m:Nat) (v:Value),(spc y)[m]? =some v->DAt D ((e.add (j*4)).add m) v)(hl:ss.length=n)(h0:0<n)(hn:n<2^32)(hk: ∀s∈ss,s.keys.length<2^32)(h:Sat w (itC i e n c (-1)::Own D::R))
  (k: ∀out ps w',ps.map PlM.sp=ss->Sat w' (PSp out ps::Own D::R)->K out w'):F28 (.mk 223 (.pointer (some i))) K w:=by
 have hal:=hrel.len
 unfold F28
 refine⟨IsI_enc _,iff' rfl ?_⟩
 refine CallI_run m223First (call272 (spec272 (R:=Own D::R) h .here fun w j hj0 hj1 h=>?_))
 rw[hj1 h0]at h
 rw[if_neg om]
 refine⟨fun m (z:Sl×Option Addr) w=> ∃(j:Nat) (ps:List PlM),j<=n/\m=n-j/\z.2=cur e n (j:Int)/\ps.map PlM.sp=ss.take j/\Sat w (PSp z.1 ps::itC i e n c (j:Int)::Own D::R),⟨_,0,[],Nat.zero_le _,rfl,rfl,rfl,pspNil h⟩,?_⟩
 clear h
 rintro m ⟨out,p⟩ w ⟨j,ps,hj,hm,hp,hps,h⟩
 dsimp only at hp h|-
 subst hp
 by_cases hlt:j<n
 ·rw[cur_some om om,Int.toNat_natCast]
  refine ifNSome ⟨_,rfl,?_⟩
  have hx:acc[j]? =some acc[j]:=List.getElem?_eq_getElem om
  have hs:ss[j]? =some ss[j]:=List.getElem?_eq_getElem om
  have hr:=hrel.get j _ _ hx hs
  have hrow:=hrows j _ hx
  have hsm:=hk _ (List.mem_of_getElem? hs)
  have htk:ss.take (j+1)=ss.take j++[ss[j]]:=by rw[List.take_add_one,hs];rfl
  generalize acc[j]=x at hx hr hrow
  generalize ss[j]=s at hs hr hsm htk
  have hpl:ps.length=j:=by
   have:=congrArg List.length hps
   rw[List.length_map,List.length_take]at this
   omega
  have hrd:RdL w (e.add (j*4)) (spc x):=fun m v ev=>h.dat .k2 (hrow m v ev)
  unfold spc at hrd
  obtain⟨kg,hkg⟩:=hr.2.2.rd
  refine LdR hrd ?_
  refine call54 (s1:=(x.lo,x.hi,x.ks,0)) (spec54 (lo:=s.lo) (hi:=s.hi) (kg:=kg) (ks:=s.keys) (R:=PSp out ps::itC i e n c (j:Int)::Own D::R) (fun w h=>⟨h.rdB .k2 hr.1.1,h.rdB .k2 hr.2.1.1,hkg h .k2⟩) hsm h fun kx w hkx h=>?_)
  refine NewS_run h fun p w h=>?_
  obtain⟨a1,a2,h2⟩:=pspOpen (h.mv 2)
  refine App1 (k:=3) rfl h2 .here .k2 rfl (plc_one ⟨s.lo,s.hi,kx,s.keys⟩) ?_ om fun r w er ea h=>?_
  ·show(2*(out.n+1)+1024)*56<=_
   omega
  have h3:=pspSnoc (ps:=ps) (x:=⟨s.lo,s.hi,kx,s.keys⟩) (r:=r) om a2 hkx (((h.mv 2).tail.mv 2).mv 1)
  refine CallI_run m223Next (call274 (spec274 (h3.mv 1) .here om om fun w h=>?_))
  rw[if_pos om]at h|-
  exact⟨n-(j+1),by omega,j+1,ps++[⟨s.lo,s.hi,kx,s.keys⟩],by omega,rfl,rfl,by rw[List.map_append,hps,htk];rfl,h.t1⟩
 ·have:j=n:=by omega
  subst this
  rw[cur_none (.inr (Int.le_refl _))]
  refine ifNNone ?_
  rw[List.take_of_length_le om]at hps
  exact k out ps w hps (h.mv 1).tail
theorem spec28nil {R w}{K:Sl->WP}(h:Sat w R)(k: ∀w',Sat w' (PSp nl []::R)->K nl w'):F28 .nil K w:=by
 unfold F28
 exact⟨IsI_enc _,ift rfl (k w (pspNil h))⟩
end Go.Proofs.YtpkoddfamelnhaaGreatDoor
