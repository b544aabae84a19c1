/- Part 27 of the proof of fnBatchHistory_card. Conditions: none. -/
import Derived.Test.YtpkoddfamelnhaaGreatDoorH26
set_option linter.unusedVariables false
set_option linter.unusedSimpArgs false
namespace Go.Proofs.YtpkoddfamelnhaaGreatDoor
open Go Go.Tr
set_option maxRecDepth 100000
theorem vi_byte (n:Nat): ∀y∈vi n,y<256:=by
 induction n using Nat.strongRecOn with
 | _ n ih =>
  intro y hy
  by_cases h:n<128
  ·rw[vi_lt h]at hy
   simp only[List.mem_singleton]at hy
   omega
  ·rw[vi_ge h]at hy
   rcases List.mem_cons.1 hy with rfl|hy
   ·omega
   ·exact ih _ om y hy
theorem bl_mk (l:List Nat)(h: ∀y∈l,y<256):bl ⟨(l.map UInt8.ofNat).toArray⟩=l:=by
 unfold bl
 show((l.map UInt8.ofNat).toArray.toList).map (·.toNat)=l
 rw[List.toList_toArray,List.map_map]
 conv=>rhs;rw[<-List.map_id l]
 refine List.map_congr_left fun y hy=>?_
 have:=h y hy
 show(UInt8.ofNat y).toNat=y
 rw[UInt8.toNat_ofNat']
 omega
theorem ValAt.rd {D}{val:Sl}{o:OpM}(h:ValAt D val o)(hk:o.kind=0\/o.kind=1\/o.kind=2\/o.kind=7\/o.kind=23): ∃s,BytesAt D val s:=by
 unfold ValAt at h
 have key: ∀v:List Nat,opVal o=some v-> ∀y∈v,y<256:=fun v hv y hy=>by
  have hb: ∀s:ByteArray,y∈bl s->y<256:=fun s hs=>by
   unfold bl at hs
   obtain⟨b,_,rfl⟩:=List.mem_map.1 hs
   exact b.toNat_lt
  unfold opVal at hv
  rcases hk with hk|hk|hk|hk|hk<;>rw[hk]at hv<;>simp at hv
  ·subst hv;exact hb _ hy
  ·subst hv;exact hb _ hy
  ·subst hv;exact vi_byte _ y hy
 cases e:opVal o with
 |none=>
  rw[e]at h
  exact⟨.empty,h▸BytesAt_nil⟩
 |some v=>
  rw[e]at h
  refine⟨⟨(v.map UInt8.ofNat).toArray⟩,Cont.bytes ?_⟩
  rw[bl_mk v (key v e)]
  exact h
theorem spec26 {x:Sl×Int}{s:ByteArray}{R w}{K:ByteArray×Int×ByteArray->WP}(hr: ∀w,Sat w R->RdB w x.1.a x.1.n s)(h:Sat w R)(k: ∀w',Sat w' R->K (s,x.2,.empty) w'):F26 x K w:=by
 unfold F26
 refine NewP_run h fun n2 w h=>NewP_run h fun n3 w h=>Ld1 h ⟨s,hr w h.tail.tail,Ld1 h ?_⟩
 exact StL_of (St1 h rfl fun w h=>St1 h rfl fun w h=>St1 h rfl fun w h=>LdN h (k w h.tail.tail))
theorem spec64c {s:Sl}{L w w1}[Near w w1]{K:Option Addr->WP}(h:Sat w L)(k: ∀i w',Sat w' (Arr i [cmpV,.slice s.a s.n s.c,.int .i64 (-1)]::L)->K (some i) w'):F64 (.mk (.func 45) #[] #[]) s K w1:=by
 unfold F64
 refine NewP_run h fun i w h=>call99 ?_
 unfold F99
 exact⟨ones_of rfl,_,rfl,StL_of (St1 h rfl fun w h=>St1 h rfl fun w h=>St1 h rfl fun w h=>k i w h)⟩
theorem spec29 {q:Addr}{fmt}{data offs tombs rks:Sl}{R w}{K:IV->WP}(h:Sat w (Arr q (fbc fmt data offs tombs rks)::R))
  (k0:tombs.n=0-> ∀w',Sat w' (Arr q (fbc fmt data offs tombs rks)::R)->K .nil w') (k1:0<tombs.n-> ∀i w',Sat w' (Arr i [cmpV,.slice tombs.a tombs.n tombs.c,.int .i64 (-1)]::Arr q (fbc fmt data offs tombs rks)::R)->K (.mk 223 (.pointer (some i))) w'):F29 (some q) K w:=by
 have h0:=h
 unfold fbc at h
 unfold F29
 refine call55 ?_
 unfold F55
 refine⟨_,rfl,Ld1 h (ife (fun e=>?_) fun e=>?_)⟩
 ·dsimp only at e
  exact decI_nil (decI_nil (k0 om w h0))
 ·dsimp only at e
  refine⟨_,rfl,Ld1 h ⟨_,rfl,Ld1 h (call64 (cmp1:=.mk (.func 45) #[] #[]) (spec64c h0 fun i w h=>?_))⟩⟩
  exact decI_enc (x:=.mk 223 (.pointer (some i))) (decI_enc (k1 om i w h))
theorem spec30 {q:Addr}{fmt}{data offs tombs rks:Sl}{R w}{K:IV->WP}(h:Sat w (Arr q (fbc fmt data offs tombs rks)::R))
  (k0:rks.n=0-> ∀w',Sat w' (Arr q (fbc fmt data offs tombs rks)::R)->K .nil w') (k1:0<rks.n-> ∀i w',Sat w' (Arr i [cmpV,.slice rks.a rks.n rks.c,.int .i64 (-1)]::Arr q (fbc fmt data offs tombs rks)::R)->K (.mk 223 (.pointer (some i))) w'):F30 (some q) K w:=by
 have h0:=h
 unfold fbc at h
 unfold F30
 refine call56 ?_
 unfold F56
 refine⟨_,rfl,Ld1 h (ife (fun e=>?_) fun e=>?_)⟩
 ·dsimp only at e
  exact decI_nil (decI_nil (k0 om w h0))
 ·dsimp only at e
  refine⟨_,rfl,Ld1 h ⟨_,rfl,Ld1 h (call64 (cmp1:=.mk (.func 45) #[] #[]) (spec64c h0 fun i w h=>?_))⟩⟩
  exact decI_enc (x:=.mk 223 (.pointer (some i))) (decI_enc (k1 om i w h))
theorem list29 {D:Hp}{q:Addr}{fmt}{data offs tombs rks:Sl}{xs:List SpC}{ss:List SpanM}{R w}{K:Sl->WP}(hrel:SpsRel D xs ss)(hn:tombs.n=xs.length)(hlen:ss.length<2^32)(hk: ∀s∈ss,s.keys.length<2^32)
  (h:Sat w (Own D::Buf 4 tombs (xs.flatMap spc)::Arr q (fbc fmt data offs tombs rks)::R)) (k: ∀D' out ps w',D.le D'->ps.map PlM.sp=ss->Sat w' (PSp out ps::Own D'::Arr q (fbc fmt data offs tombs rks)::R)->K out w'):
  CallF Tryz.prog 29 [.pointer (some q)] [(.one .ifc)] (fun(r22:IV) w=>CallF Tryz.prog 28 [(IV.enc r22)] [(.one .sl)] (fun(r23:Sl) w=>K r23 w) w) w:=by
 obtain⟨G,e,l1,l2,l3,l4,l5,h⟩:=spsAbs hrel hn h
 refine call29 (spec29 h.t1 (fun h0 w h=>?_) (fun h0 i w h=>?_))
 ·refine call28 (spec28nil h fun w h=>k G nl [] w l1 ?_ h.t2.t1)
  exact(List.length_eq_zero_iff.1 om).symm
 ·have e1:=l2 om
  have h2:Sat w (itC i e ss.length tombs.c (-1)::Own G::Arr q (fbc fmt data offs tombs rks)::R):=by
   unfold itC
   rw[e1]at h|-
   exact h.t2.t1
  exact call28 (spec28 l3 l4 rfl om hlen hk h2 fun out ps w hp h=>k G out ps w l1 hp h)
theorem list30 {D:Hp}{q:Addr}{fmt}{data offs tombs rks:Sl}{xs:List SpC}{ss:List SpanM}{R w}{K:Sl->WP}(hrel:SpsRel D xs ss)(hn:rks.n=xs.length)(hlen:ss.length<2^32)(hk: ∀s∈ss,s.keys.length<2^32)
  (h:Sat w (Own D::Buf 4 rks (xs.flatMap spc)::Arr q (fbc fmt data offs tombs rks)::R)) (k: ∀D' out ps w',D.le D'->ps.map PlM.sp=ss->Sat w' (PSp out ps::Own D'::Arr q (fbc fmt data offs tombs rks)::R)->K out w'):
  CallF Tryz.prog 30 [.pointer (some q)] [(.one .ifc)] (fun(r22:IV) w=>CallF Tryz.prog 28 [(IV.enc r22)] [(.one .sl)] (fun(r23:Sl) w=>K r23 w) w) w:=by
 obtain⟨G,e,l1,l2,l3,l4,l5,h⟩:=spsAbs hrel hn h
 refine call30 (spec30 h.t1 (fun h0 w h=>?_) (fun h0 i w h=>?_))
 ·refine call28 (spec28nil h fun w h=>k G nl [] w l1 ?_ h.t2.t1)
  exact(List.length_eq_zero_iff.1 om).symm
 ·have e1:=l2 om
  have h2:Sat w (itC i e ss.length rks.c (-1)::Own G::Arr q (fbc fmt data offs tombs rks)::R):=by
   unfold itC
   rw[e1]at h|-
   exact h.t2.t1
  exact call28 (spec28 l3 l4 rfl om hlen hk h2 fun out ps w hp h=>k G out ps w l1 hp h)
theorem filter_flat_len {α β:Type}(p:α->Bool)(f:α->List β): ∀l:List α,((l.filter p).flatMap f).length<=(l.flatMap f).length
 | []=>Nat.le_refl _
 |x::l=>by
  have ih:=filter_flat_len p f l
  rw[List.filter_cons,List.flatMap_cons,List.length_append]
  split
  ·rw[List.flatMap_cons,List.length_append];omega
  ·omega
theorem keysC_len {ss:List SpanM}{E:List SpanM}(ok:SpansOK ss)(h: ∀y,(keysOf ss y).Perm (covK E y))(n:Nat)(hE:(E.flatMap (·.keys)).length<=n): ∀s∈ss,s.keys.length<=n:=by
 intro s hs
 obtain⟨j,hj,e⟩:=List.getElem_of_mem hs
 have hj':ss[j]? =some s:=by rw[List.getElem?_eq_getElem hj,e]
 have h1:=ok.ne j s hj'
 have h2:covs ss s.lo=some s:=covs_at ok hj' (by rw[bcmp_refl];exact Int.le_refl _) h1
 have h3:=(h s.lo).length_eq
 unfold keysOf at h3
 rw[h2]at h3
 have h4:(covK E s.lo).length<=(E.flatMap (·.keys)).length:=by
  exact filter_flat_len _ _ E
 dsimp only at h3
 omega
structure RngOK (l:List OpM)(ss:List SpanM):Prop where
 ok:SpansOK ss
 n:ss.length<=(l.length+1)*(l.length+1)
 ks: ∀y,(keysOf ss y).Perm (covK (((entL l).filter isRK).map spanOf) y)
theorem sq512 {n m:Nat}(h:n<=512)(hm:m<=(n+1)*(n+1)):m<2^32:=by
 have:=sq_mono h
 omega
theorem isPt_kind {e:EntM}(h:isPt e=true)(ho:OpOK e.op):e.op.kind=0\/e.op.kind=1\/e.op.kind=2\/e.op.kind=7\/e.op.kind=23:=by
 have hk:=ho.kind
 unfold OpKind at hk
 simp only[isPt,isDel,isRK,Bool.and_eq_true,Bool.not_eq_true',decide_eq_false_iff_not]at h
 omega
theorem m258Error :MethAt Tryz.prog 258 "Error" 279:=by intro v w;kernel_rfl
set_option maxHeartbeats 4000000 in
theorem spec9 {ops:Sl}{l:List OpM}{R w}{K:Sl×Sl×Sl×Bool->WP}(hl: ∀o∈l,OpOK o)(hn:l.length<=512)(hne:l≠ [])(hops:OpsIn R ops l)(h:Sat w R)
  (k: ∀pts dl rg ps w',pts.n=((entL l).filter isPt).length->RngOK l (ps.map PlM.sp)->Sat w' (PSp rg ps::R)->K (pts,dl,rg,true) w'):F9 ops K w:=by
 unfold F9
 refine call22 (spec22 hl hn hops h fun b w h=>?_)
 refine ifn (fun hh=>nomatch hh) fun _=>?_
 have h1:BtSat b (encL l) l.length (Own (fun _=>none)::R) w:=by
  obtain⟨s,a1,a2,h⟩:=h
  have h2:Sat w (Own (fun _=>none)::Arr b (btc s)::Buf 1 s.data (nb (encL l))::R):=SatU.nil rfl h
  exact⟨s,a1,a2,(((h2.mv 0).mv 2).mv 2)⟩
 clear h
 have hen:encL l≠ []:=fun e=>by
  have e1:encL l=z12++l.flatMap recOp:=if_neg hne
  rw[e1]at e
  have:=congrArg List.length e
  rw[List.length_append,List.length_nil]at this
  have h12:z12.length=12:=rfl
  omega
 obtain⟨D,s,_,hc,hcnt,h⟩:=h1.abs hen
 refine call24 (spec24 h fun cq w h=>?_)
 refine call23 (spec23 hl hn hne hc hcnt (h.mv 2) fun D q offs tombs rks P xs ys dels rngs w hD hf h=>?_)
 refine⟨IsI_enc .nil,iff' rfl ?_⟩
 refine call25 (spec25 h fun p w h=>?_)
 have hok:=entL_ok hl om hne
 have hmem: ∀e∈P,e∈entL l/\isPt e=true:=fun e he=>List.mem_filter.1 (hf.hP.perm.mem_iff.1 he)
 have hPok: ∀e∈P,EntOK (encL l) e:=fun e he=>hok e (hmem e he).1
 have hbs:(encL l).length<2^32:=by
  have:=encL_len hl
  omega
 have hPl:P.length<=512:=by
  rw[hf.hP.perm.length_eq]
  exact Nat.le_trans (List.length_filter_le _ _) (by rw[entL_len];omega)
 have h2:Sat w (Arr p (itcs q s.data offs (-1) ⟨none,0,0⟩ 0)::Arr q (fbc .nil s.data offs tombs rks)::Own D::Buf 4 rks (ys.flatMap spc)::Buf 4 tombs (xs.flatMap spc)::Arr b (btc s)::Arr cq cmpCs::R):=(((((((h.mv 6).mv 6).mv 6).mv 5).mv 6).mv 6).mv 6)
 clear h
 have fin: ∀(m:Nat) (z:Sl×Option Addr×Addr) (w:World),(∃(j:Nat) (idx:Int) (uk:Sl) (tr:Int) (val:Sl) (acc:List Value),(j<P.length->idx=j)/\j<=P.length/\m=P.length-j/\z.1.n=j/\z.2.1=(if j<P.length then some (p.add 5)else none)/\(∀e,P[j]? =some e->uk=e.key s.data/\tr=(e.tr:Int)/\ValAt D val e.op)/\
   Sat w (Buf 3 z.1 acc::Arr z.2.2 [.slice val.a val.n val.c,.pointer none]::Arr p (itcs q s.data offs idx uk tr)::Arr q (fbc .nil s.data offs tombs rks)::Own D::Buf 4 rks (ys.flatMap spc)::Buf 4 tombs (xs.flatMap spc)::Arr b (btc s)::Arr cq cmpCs::R))->
   Tr.Loop (fun(next9:(Sl×Option Addr×Addr)->WP) (s8:Sl×Option Addr×Addr) w=>(if(!(s8.2.1).isNone)=true then∃p10,s8.2.1=some p10/\Ld (.agg [.sl,.int .u64]) p10 (fun(x11:Sl×Int) w=>CallF Tryz.prog 26 [.agg #[.slice x11.1.a x11.1.n x11.1.c,.int .u64 x11.2]] [(.agg [.str,.int .u64,.str])] (fun(r12:ByteArray×Int×ByteArray) w=>NewP [.string ByteArray.empty,.int .u64 (0:Int),.string ByteArray.empty] 94 (fun(n13:Addr) w=>StL n13 [.string r12.1,.int .u64 r12.2.1,.string r12.2.2] (fun w=>CallF Tryz.prog 27 [.pointer (some s8.2.2)] [(.one .sl)] (fun(r14:Sl) w=> ∃s15,RdB w r14.a r14.n s15/\St (n13.add 2) (.string s15) (fun w=>Ld (.agg [.str,.int .u64,.str]) n13 (fun(x16:ByteArray×Int×ByteArray) w=>NewS [.string x16.1,.int .u64 x16.2.1,.string x16.2.2] 94 1 (fun(l17:Sl) w=>AppP si24 s8.1 l17 (fun(a18:Sl) w=>Ld (.agg [.sl,.ptr]) s8.2.2 (fun(x19:Sl×Option Addr) w=>NewP [.slice none 0 0,.pointer none] 90 (fun(n20:Addr) w=>StL n20 [.slice x19.1.a x19.1.n x19.1.c,.pointer x19.2] (fun w=>CallI Tryz.prog (IV.enc (itV p)) "Next" [] [(.one .ptr),(.agg [.sl,.ptr])] (fun(r21:Option Addr×Sl×Option Addr) w=>StL n20 [.slice r21.2.1.a r21.2.1.n r21.2.1.c,.pointer r21.2.2] (fun w=>next9 (a18,r21.1,n20) w) w) w) w) w) w) w) w) w) w) w) w) w) w) w else CallF Tryz.prog 29 [.pointer (some q)] [(.one .ifc)] (fun(r22:IV) w=>CallF Tryz.prog 28 [(IV.enc r22)] [(.one .sl)] (fun(r23:Sl) w=>CallF Tryz.prog 30 [.pointer (some q)] [(.one .ifc)] (fun(r24:IV) w=>CallF Tryz.prog 28 [(IV.enc r24)] [(.one .sl)] (fun(r25:Sl) w=>CallI Tryz.prog (IV.enc (itV p)) "Error" [] [(.one .ifc)] (fun(r26:IV) w=>IsI (IV.enc r26)/\K (s8.1,r23,r25,(isNilI (IV.enc r26))) w) w) w) w) w) w.drew)) z w:=by
  intro m z w hI
  refine⟨fun m z w=> ∃(j:Nat) (idx:Int) (uk:Sl) (tr:Int) (val:Sl) (acc:List Value),(j<P.length->idx=j)/\j<=P.length/\m=P.length-j/\z.1.n=j/\z.2.1=(if j<P.length then some (p.add 5)else none)/\(∀e,P[j]? =some e->uk=e.key s.data/\tr=(e.tr:Int)/\ValAt D val e.op)/\
   Sat w (Buf 3 z.1 acc::Arr z.2.2 [.slice val.a val.n val.c,.pointer none]::Arr p (itcs q s.data offs idx uk tr)::Arr q (fbc .nil s.data offs tombs rks)::Own D::Buf 4 rks (ys.flatMap spc)::Buf 4 tombs (xs.flatMap spc)::Arr b (btc s)::Arr cq cmpCs::R),⟨m,hI⟩,?_⟩
  clear hI z m w
  rintro m ⟨pts,pp,lz⟩ w ⟨j,idx,uk,tr,val,acc,hidx,hj,hm,hpn,hpp,hcur,h⟩
  dsimp only at hpn hpp h|-
  subst hpp
  by_cases hlt:j<P.length
  ·rw[if_pos hlt]
   have he:P[j]? =some P[j]:=List.getElem?_eq_getElem hlt
   generalize P[j]=e at he
   obtain⟨rfl,rfl,hval⟩:=hcur e he
   obtain rfl:=hidx hlt
   have hem:=List.mem_of_getElem? he
   obtain⟨vs,hvs⟩:=hval.rd (isPt_kind (hmem e hem).2 (hPok e hem).op)
   refine ifNSome ⟨_,rfl,?_⟩
   have hu:=h
   unfold itcs at hu
   refine LdN hu ?_
   clear hu
   have hkb:=(hf.hc.keyAt (hPok e hem)).bytes
   refine call26 (k1:=(e.key s.data,(e.tr:Int))) (spec26 (s:=e.op.key) (fun w h=>h.rdB .k4 hkb) h fun w h=>?_)
   refine NewP_run h fun n13 w h=>StL_of (St1 h rfl fun w h=>St1 h rfl fun w h=>St1 h rfl fun w h=>?_)
   refine call27 (spec27 h .k2 fun h=>⟨vs,h.rdB .k5 hvs,St1 h rfl fun w h=>LdN h (NewS_run h fun n17 w h=>?_)⟩)
   refine App1 (k:=3) rfl h .k2 .here rfl (ones_of rfl) ?_ om fun r w er ea h=>?_
   ·show(2*(pts.n+1)+1024)*40<=_
    omega
   refine LdN h (NewP_run h fun n20 w h=>StL_of (St1 h rfl fun w h=>St1 h rfl fun w h=>?_))
   have h3:Sat w (Arr p (itcs q s.data offs (j:Int) (e.key s.data) (e.tr:Int))::Arr q (fbc .nil s.data offs tombs rks)::Own D::Arr n20 [.slice val.a val.n val.c,.pointer none]::Buf 3 r (acc++[.string e.op.key,.int .u64 (e.tr:Int),.string vs])::Buf 4 rks (ys.flatMap spc)::Buf 4 tombs (xs.flatMap spc)::Arr b (btc s)::Arr cq cmpCs::R):=((((((((h.mv 2).tail.mv 2).tail.mv 2).tail.mv 1).mv 1).mv 4).mv 4).mv 4)
   clear h
   refine CallI_run m258Next (call282 (spec282 hf.hc hf.hE hPok hbs hlt om h3 (fun uk tr w hjn h=>?_) (fun e' val' w he' hv' h=>?_)))
   ·refine StL_of (St1 h rfl fun w h=>St1 h rfl fun w h=>?_)
    refine⟨P.length-(j+1),by omega,j+1,((j+1:Nat):Int),uk,tr,nl,acc++[.string e.op.key,.int .u64 (e.tr:Int),.string vs],fun _=>rfl,by omega,rfl,by omega,?_,?_,?_⟩
    ·rw[if_neg om]
    ·intro e2 he2
     have:=(List.getElem?_eq_some_iff.1 he2).1
     omega
    ·exact(((((h.mv 2).mv 2).mv 2).mv 3).mv 4)
   ·have hjn:=(List.getElem?_eq_some_iff.1 he').1
    refine StL_of (St1 h rfl fun w h=>St1 h rfl fun w h=>?_)
    refine⟨P.length-(j+1),by omega,j+1,((j+1:Nat):Int),e'.key s.data,(e'.tr:Int),val',acc++[.string e.op.key,.int .u64 (e.tr:Int),.string vs],fun _=>rfl,by omega,rfl,by omega,?_,?_,?_⟩
    ·rw[if_pos om]
    ·intro e2 he2
     rw[he']at he2
     injection he2 with he2
     subst he2
     exact⟨rfl,rfl,hv'⟩
    ·exact(((((h.mv 2).mv 2).mv 2).mv 3).mv 4)
  ·have hjl:j=P.length:=by omega
   rw[if_neg hlt]
   refine ifNNone ?_
   have h3:Sat w (Own D::Buf 4 tombs (xs.flatMap spc)::Arr q (fbc .nil s.data offs tombs rks)::Buf 4 rks (ys.flatMap spc)::Buf 3 pts acc::Arr lz [.slice val.a val.n val.c,.pointer none]::Arr p (itcs q s.data offs idx uk tr)::Arr b (btc s)::Arr cq cmpCs::R):=(((((((h.mv 2).mv 2).mv 2).mv 5).mv 4).mv 6).mv 6)
   clear h
   have kd1: ∀s∈dels,s.keys.length<2^32:=fun s hs=>by
    have h9:=keysC_len hf.t3 hf.t4 512 ?_ s hs
    ·omega
    ·have e1:=take_keysT_len (E:=(entL l).filter isDel) (j:=((entL l).filter isDel).length)
     rw[List.take_length]at e1
     have e2:=List.length_filter_le isDel (entL l)
     rw[entL_len]at e2
     omega
   have kd2: ∀s∈rngs,s.keys.length<2^32:=fun s hs=>by
    have h9:=keysC_len hf.r3 hf.r4 512 ?_ s hs
    ·omega
    ·have e1:=take_keys_len (E:=(entL l).filter isRK) (j:=((entL l).filter isRK).length)
     rw[List.take_length]at e1
     have e2:=List.length_filter_le isRK (entL l)
     rw[entL_len]at e2
     omega
   refine list29 hf.t1 hf.t2 (sq512 hn hf.t5) kd1 h3.near fun D1 dl pd w hD1 hpd h=>?_
   clear h3
   have h4:Sat w (Own D1::Buf 4 rks (ys.flatMap spc)::Arr q (fbc .nil s.data offs tombs rks)::PSp dl pd::Buf 3 pts acc::Arr lz [.slice val.a val.n val.c,.pointer none]::Arr p (itcs q s.data offs idx uk tr)::Arr b (btc s)::Arr cq cmpCs::R):=((((h.mv 0).mv 2).mv 3).mv 3)
   clear h
   refine list30 (hf.r1.mono hD1) hf.r2 (sq512 hn hf.r5) kd2 h4 fun D2 rg ps w hD2 hps h=>?_
   have h5:Sat w (Arr p (itcs q s.data offs idx uk tr)::PSp rg ps::Own D2::Arr q (fbc .nil s.data offs tombs rks)::PSp dl pd::Buf 3 pts acc::Arr lz [.slice val.a val.n val.c,.pointer none]::Arr b (btc s)::Arr cq cmpCs::R):=(((((((h.mv 5).mv 5).mv 5).mv 5).mv 5).mv 5).mv 6)
   clear h h4
   refine CallI_run m258Error (call279 ?_)
   unfold F279
   unfold itcs at h5
   refine⟨_,rfl,Ld1 h5 (decI_enc (x:=.nil) ⟨IsI_enc .nil,?_⟩)⟩
   refine k pts dl rg ps w ?_ ⟨by rw[hps];exact hf.r3,by rw[hps];exact hf.r5,fun y=>by rw[hps];exact hf.r4 y⟩ ?_
   ·rw[hpn,hjl,hf.hP.perm.length_eq]
   ·exact Sat.drop 7 (h5.tail.pt 7)
 refine CallI_run m258First (call280 (spec280 hf.hc hf.hE hPok hbs h2 (fun w he h=>?_) (fun e val w he hv h=>?_)))
 ·refine NewP_run h fun n7 w h=>StL_of (St1 h rfl fun w h=>St1 h rfl fun w h=>fin 0 _ w ⟨0,-1,nl,0,nl,[],fun h9=>by rw[he]at h9;exact absurd h9 (Nat.not_lt_zero _),Nat.zero_le _,by rw[he];rfl,rfl,by rw[he];rfl,fun e h9=>by rw[he]at h9;simp at h9,?_⟩)
  exact(h.bufNil 3)
 ·have hjn:=(List.getElem?_eq_some_iff.1 he).1
  refine NewP_run h fun n7 w h=>StL_of (St1 h rfl fun w h=>St1 h rfl fun w h=>fin P.length _ w ⟨0,((0:Nat):Int),e.key s.data,(e.tr:Int),val,[],fun _=>rfl,Nat.zero_le _,rfl,rfl,by rw[if_pos hjn],fun e2 h9=>by rw[he]at h9;injection h9 with h9;subst h9;exact⟨rfl,rfl,hv⟩,?_⟩)
  exact(h.bufNil 3)
theorem ifnf {b:Bool}{A B:Prop}(x:b=true->A)(y:b=false->B):if(!b)=false then A else B:=by
 cases b
 ·exact y rfl
 ·exact x rfl
theorem spec19 {o:OpM}{R w}{K:Bool->WP}(h:Sat w R)(k: ∀b w',Sat w' R->K b w'):F19 ((o.kind:Int),o.key,o.val,o.end_,o.suf,(o.size:Int)) K w:=by
 unfold F19
 refine NewP_run h fun n w h=>Ld1 h (ifd (fun _=>k _ _ h.tail) fun _=>Ld1 h (ifd (fun _=>k _ _ h.tail) fun _=>Ld1 h (ifd (fun _=>k _ _ h.tail) fun _=>Ld1 h (ifd (fun _=>k _ _ h.tail) fun _=>k _ _ h.tail))))
theorem opAt {R}{ops:Sl}{l:List OpM}(hops:OpsIn R ops l){j:Nat}(hj:j<l.length){w}(h:Sat w R): ∃e,ops.a=some e/\RdL w (e.add (j*6)) [.int .u8 (l[j].kind:Int),.string l[j].key,.string l[j].val,.string l[j].end_,.string l[j].suf,.int .u32 (l[j].size:Int)]:=
 hops.2 w h j l[j] (List.getElem?_eq_getElem hj)
theorem spec6 {ops:Sl}{l:List OpM}{R w}{K:Bool->WP}(hops:OpsIn R ops l)(h:Sat w R)(k: ∀b w',(b=true->l.length<=2147483647)->Sat w' R->K b w'):F6 ops K w:=by
 unfold F6
 have hn:=hops.1
 refine ifd (fun _=>k _ _ (fun h=>nomatch h) h) fun hle=>?_
 refine⟨fun m (z:Int) w=> ∃j:Nat,z=(j:Int)/\j<=l.length/\m=l.length-j/\Sat w R,⟨_,0,rfl,Nat.zero_le _,rfl,h⟩,?_⟩
 clear h
 rintro m z w ⟨j,rfl,hj,hm,h⟩
 refine ifd (fun hlt=>?_) (fun hge=>k _ _ (fun _=>by omega) h)
 have hjl:j<l.length:=by omega
 obtain⟨e,he,hr⟩:=opAt hops hjl h
 rw[w1 om,Int.toNat_natCast]
 refine⟨⟨by omega,hlt⟩,e,he,LdR hr (NewP_run h fun n w h=>StL_of (St1 h rfl fun w h=>St1 h rfl fun w h=>St1 h rfl fun w h=>St1 h rfl fun w h=>St1 h rfl fun w h=>St1 h rfl fun w h=>LdN h ?_))⟩
 refine call19 (spec19 (o:=l[j]) h fun b w h=>?_)
 refine ifn (fun _=>k _ _ (fun h=>nomatch h) h.tail) fun _=>⟨_,?_,j+1,by omega,hjl,rfl,h.tail⟩
 omega
theorem spec20 {n:Nat}{w}{K:Bool->WP}(k: ∀b,(b=true->n=0\/n=1\/n=2\/n=3\/n=7\/n=15\/n=19\/n=20\/n=21\/n=23)->K b w):F20 (n:Int) K w:=by
 unfold F20
 refine ife (fun e=>ife (fun _=>k _ fun _=>by omega) fun _=>k _ fun h=>nomatch h) fun _=>?_
 refine ife (fun e=>ife (fun _=>k _ fun _=>by omega) fun _=>k _ fun h=>nomatch h) fun _=>?_
 refine ife (fun e=>ife (fun _=>k _ fun _=>by omega) fun _=>k _ fun h=>nomatch h) fun _=>?_
 refine ife (fun e=>ife (fun _=>k _ fun _=>by omega) fun _=>k _ fun h=>nomatch h) fun _=>?_
 refine ife (fun e=>ife (fun _=>k _ fun _=>by omega) fun _=>k _ fun h=>nomatch h) fun _=>?_
 refine ife (fun e=>ife (fun _=>k _ fun _=>by omega) fun _=>k _ fun h=>nomatch h) fun _=>?_
 refine ife (fun e=>ife (fun _=>k _ fun _=>by omega) fun _=>k _ fun h=>nomatch h) fun _=>?_
 refine ife (fun e=>ife (fun _=>k _ fun _=>by omega) fun _=>k _ fun h=>nomatch h) fun _=>?_
 refine ife (fun e=>ife (fun _=>k _ fun _=>by omega) fun _=>k _ fun h=>nomatch h) fun _=>?_
 exact ife (fun e=>k _ fun _=>by omega) fun _=>k _ fun h=>nomatch h
theorem spec21 {p:Addr}{ts:List ByteArray}{R w}{K:Bool->WP}(hl:ts.length<2^40)(h:Sat w (Arr p (ts.map .string)::R))(k: ∀b w',(b=true-> ∀s∈ts,s.size<=2^20)->Sat w' (Arr p (ts.map .string)::R)->K b w'):F21 ⟨some p,ts.length,ts.length⟩ K w:=by
 unfold F21
 refine⟨fun m (z:Int) w=> ∃j:Nat,z=(j:Int)/\j<=ts.length/\m=ts.length-j/\(∀(i:Nat) (s:ByteArray),i<j->ts[i]? =some s->s.size<=2^20)/\Sat w (Arr p (ts.map .string)::R),⟨_,0,rfl,Nat.zero_le _,rfl,fun i s hi=>by omega,h⟩,?_⟩
 clear h
 rintro m z w ⟨j,rfl,hj,hm,hs,h⟩
 refine ifd (fun hlt=>?_) (fun hge=>k _ _ (fun _ s hs'=>?_) h)
 ·have hjl:j<ts.length:=by dsimp only at hlt;omega
  have he:ts[j]? =some ts[j]:=List.getElem?_eq_getElem hjl
  generalize ts[j]=s at he
  rw[w1 om,Int.toNat_natCast]
  refine⟨⟨by omega,hlt⟩,p,rfl,LdC (v:=.string s) ((h.rdL .here) (j*1) _ (by rw[Nat.mul_one,List.getElem?_map,he];rfl)) ?_⟩
  refine ifd (fun _=>k _ _ (fun h=>nomatch h) h) fun hz=>⟨_,?_,j+1,rfl,hjl,rfl,fun i s' hi hs'=>?_,h⟩
  ·omega
  ·by_cases hij:i=j
   ·subst hij
    rw[he]at hs'
    injection hs' with hs'
    subst hs'
    omega
   ·exact hs i s' om hs'
 ·obtain⟨i,hi,e⟩:=List.getElem_of_mem hs'
  dsimp only at hge
  exact hs i s om (by rw[List.getElem?_eq_getElem hi,e])
def AllKind (n:Nat):Prop:=n=0\/n=1\/n=2\/n=3\/n=7\/n=15\/n=19\/n=20\/n=21\/n=23
structure OpMost (o:OpM):Prop where
 kind:AllKind o.kind
 key:o.key.size<=2^20
 val:o.val.size<=2^20
 end_:o.end_.size<=2^20
 suf:o.suf.size<=2^20
theorem take_all {l:List OpM}{P:OpM->Prop}{j:Nat}(hjl:j<l.length)(h: ∀o∈l.take j,P o)(h1:P l[j]): ∀o∈l.take (j+1),P o:=by
 rw[List.take_add_one,List.getElem?_eq_getElem hjl]
 intro o ho
 rcases List.mem_append.1 ho with ho|ho
 ·exact h o ho
 ·simp only[Option.toList_some,List.mem_singleton]at ho
  rw[ho];exact h1
theorem spec7 {ops:Sl}{l:List OpM}{R w}{K:Bool->WP}(hl:l.length<=2147483647)(hops:OpsIn R ops l)(h:Sat w R)(k: ∀b w',(b=true->0<l.length/\l.length<=100/\ ∀o∈l,OpMost o)->Sat w' R->K b w'):F7 ops K w:=by
 unfold F7
 have hn:=hops.1
 refine⟨fun m (z:Int) w=> ∃j:Nat,z=(j:Int)/\j<=l.length/\m=l.length-j/\(∀o∈l.take j,OpMost o)/\Sat w R,⟨_,0,rfl,Nat.zero_le _,rfl,fun o ho=>by simp at ho,h⟩,?_⟩
 clear h
 rintro m z w ⟨j,rfl,hj,hm,hs,h⟩
 refine ifd (fun hlt=>?_) (fun hge=>?_)
 ·have hjl:j<l.length:=by omega
  obtain⟨e,he,hr⟩:=opAt hops hjl h
  rw[w1 om,Int.toNat_natCast]
  refine⟨⟨by omega,hlt⟩,e,he,LdR hr (NewP_run h fun n w h=>StL_of (St1 h rfl fun w h=>St1 h rfl fun w h=>St1 h rfl fun w h=>St1 h rfl fun w h=>St1 h rfl fun w h=>St1 h rfl fun w h=>Ld1 h ?_))⟩
  refine call20 (spec20 fun b hb=>?_)
  refine ifnf (fun hbt=>?_) (fun _=>k _ _ (fun h=>nomatch h) h.tail)
  refine Ld1 h (Ld1 h (Ld1 h (Ld1 h (NewS_run h fun p w h=>?_))))
  refine call21 (l1:=⟨some p,4,4⟩) (spec21 (ts:=[l[j].key,l[j].val,l[j].end_,l[j].suf]) (show 4<2^40 by decide) h fun b w hb2 h=>?_)
  refine ifn (fun _=>k _ _ (fun h=>nomatch h) h.tail.tail) fun hbt2=>⟨_,?_,j+1,by omega,hjl,rfl,?_,h.tail.tail⟩
  ·omega
  ·have h9:=hb2 hbt2
   refine take_all hjl hs ⟨hb hbt,h9 _ (by simp),h9 _ (by simp),h9 _ (by simp),h9 _ (by simp)⟩
 ·have hjl:j=l.length:=by omega
  subst hjl
  rw[List.take_length]at hs
  refine ifd (fun h0=>k _ _ (fun hb=>?_) h) (fun _=>k _ _ (fun h=>nomatch h) h)
  have:=of_decide_eq_true hb
  exact⟨by omega,by omega,hs⟩
theorem bytesLess_lcmp : ∀x y:List UInt8,Op.bytesLess x y=decide (lcmp x y<0)
 | [],[]=>rfl
 | [],_::_=>rfl
 |_::_,[]=>rfl
 | a :: s, b :: t => by
  have ih:=bytesLess_lcmp s t
  unfold Op.bytesLess lcmp
  by_cases h1:a<b
  ·rw[if_pos h1];simp[h1]
  ·rw[if_neg h1]
   by_cases h2:b<a
   ·rw[if_pos h2]
    have: ¬a=b:=fun e=>by subst e;exact h1 h2
    simp[h1,this]
   ·rw[if_neg h2,<-ih]
    have:=u8_tri a b h1 h2
    simp[this]
theorem bytesLess_b (s t:ByteArray):Op.bytesLess s.toList t.toList=decide (bcmp s t<0):=by
 rw[Lib.toList_data,Lib.toList_data,bytesLess_lcmp,bcmp_eq]
def OpRng (o:OpM):Prop:=(o.kind=15\/o.kind=19\/o.kind=20\/o.kind=21->bcmp o.key o.end_<0)/\o.kind≠3
theorem spec8 {ops:Sl}{l:List OpM}{R w}{K:Bool->WP}(hl:l.length<=2147483647)(hops:OpsIn R ops l)(h:Sat w R)(k: ∀b w',(b=true-> ∀o∈l,OpRng o)->Sat w' R->K b w'):F8 ops K w:=by
 unfold F8
 have hn:=hops.1
 refine⟨fun m (z:Int) w=> ∃j:Nat,z=(j:Int)/\j<=l.length/\m=l.length-j/\(∀o∈l.take j,OpRng o)/\Sat w R,⟨_,0,rfl,Nat.zero_le _,rfl,fun o ho=>by simp at ho,h⟩,?_⟩
 clear h
 rintro m z w ⟨j,rfl,hj,hm,hs,h⟩
 refine ifd (fun hlt=>?_) (fun hge=>?_)
 ·have hjl:j<l.length:=by omega
  obtain⟨e,he,hr⟩:=opAt hops hjl h
  rw[w1 om,Int.toNat_natCast]
  refine⟨⟨by omega,hlt⟩,e,he,LdR hr (NewP_run h fun n w h=>StL_of (St1 h rfl fun w h=>St1 h rfl fun w h=>St1 h rfl fun w h=>St1 h rfl fun w h=>St1 h rfl fun w h=>St1 h rfl fun w h=>?_))⟩
  simp only[StC]
  refine Ld1 h ?_
  have hnext:OpRng l[j]-> ∀w,Sat w R-> ∃m',m'<m/\ ∃j':Nat,(((j+1:Nat):Int))=(j':Int)/\j'<=l.length/\m'=l.length-j'/\(∀o∈l.take j',OpRng o)/\Sat w R:=fun ho w h=>⟨l.length-(j+1),by omega,j+1,rfl,hjl,rfl,take_all hjl hs ho,h⟩
  refine⟨fun b w=>b=decide (l[j].kind=15\/l[j].kind=19\/l[j].kind=20\/l[j].kind=21)/\Sat w (Arr n [.int .u8 (l[j].kind:Int),.string l[j].key,.string l[j].val,.string l[j].end_,.string l[j].suf,.int .u32 (l[j].size:Int)]::R),?_,?_⟩
  ·clear h
   rintro b w ⟨hb,h⟩
   refine ifb (fun hbt=>?_) (fun hbf=>?_)
   ·rw[hbt]at hb
    have hk:=of_decide_eq_true hb.symm
    refine Ld1 h (Ld1 h ?_)
    rw[bytesLess_b]
    refine ifn (fun _=>k _ _ (fun h=>nomatch h) h.tail) fun hlt2=>hnext ⟨fun _=>of_decide_eq_true hlt2,by omega⟩ w h.tail
   ·rw[hbf]at hb
    have hk:=of_decide_eq_false hb.symm
    refine ife (fun _=>k _ _ (fun h=>nomatch h) h.tail) fun h3=>hnext ⟨fun h9=>absurd h9 hk,by omega⟩ w h.tail
  ·refine ife (fun h1=>⟨?_,h⟩) fun h1=>ife (fun h2=>⟨?_,h⟩) fun h2=>ife (fun h3=>⟨?_,h⟩) fun h3=>⟨?_,h⟩
   ·rw[decide_eq_true (show l[j].kind=15\/l[j].kind=19\/l[j].kind=20\/l[j].kind=21 by omega)];simpa using h1
   ·rw[decide_eq_true (show l[j].kind=15\/l[j].kind=19\/l[j].kind=20\/l[j].kind=21 by omega)];simpa using h2
   ·rw[decide_eq_true (show l[j].kind=15\/l[j].kind=19\/l[j].kind=20\/l[j].kind=21 by omega)];simpa using h3
   ·rw[Bool.eq_iff_iff,decide_eq_true_eq,beq_iff_eq];omega
 ·have hjl:j=l.length:=by omega
  subst hjl
  rw[List.take_length]at hs
  exact k _ _ (fun _=>hs) h
theorem spec10 {ops:Sl}{l:List OpM}{R w}{K:Sl->WP}(hl:l.length<=512)(hops:OpsIn R ops l)(h:Sat w R)(k: ∀out w',out.n=l.length->Sat w' (Buf 6 out (l.flatMap oc)::R)->K out w'):F10 ops K w:=by
 unfold F10
 have hn:=hops.1
 refine⟨fun m (z:Sl×Int) w=> ∃j:Nat,z.2=(j:Int)/\j<=l.length/\m=l.length-j/\z.1.n=j/\Sat w (Buf 6 z.1 ((l.take j).flatMap oc)::R),⟨_,0,rfl,Nat.zero_le _,rfl,rfl,h.bufNil 6⟩,?_⟩
 clear h
 rintro m ⟨out,z⟩ w ⟨j,e,hj,hm,hon,h⟩
 dsimp only at e hon h|-
 subst e
 refine ifd (fun hlt=>?_) (fun hge=>?_)
 ·have hjl:j<l.length:=by omega
  obtain⟨e,he,hr⟩:=opAt hops hjl h.tail
  rw[w1 om,Int.toNat_natCast]
  refine⟨⟨by omega,hlt⟩,e,he,LdR hr (NewP_run h fun n w h=>StL_of (St1 h rfl fun w h=>St1 h rfl fun w h=>St1 h rfl fun w h=>St1 h rfl fun w h=>St1 h rfl fun w h=>St1 h rfl fun w h=>LdN h (NewS_run h fun p w h=>?_)))⟩
  refine App1 (k:=6) rfl h .k2 .here rfl (ones_of rfl) ?_ om fun r w er ea h=>?_
  ·show(2*(out.n+1)+1024)*80<=_
   omega
  refine⟨_,?_,j+1,rfl,hjl,rfl,by omega,?_⟩
  ·omega
  ·have e1:l.take (j+1)=l.take j++[l[j]]:=by rw[List.take_add_one,List.getElem?_eq_getElem hjl];rfl
   rw[e1,List.flatMap_append,List.flatMap_singleton]
   exact(h.mv 1).tail.mv 1|>.tail
 ·have hjl:j=l.length:=by omega
  subst hjl
  rw[List.take_length]at h
  exact k out w hon h
theorem OpsIn.buf {R}{out:Sl}{l:List OpM}(hn:out.n=l.length):OpsIn (Buf 6 out (l.flatMap oc)::R) out l:=by
 refine⟨hn,fun w h j o e=>?_⟩
 have hne:l.flatMap oc≠ []:=fun h0=>by
  have:=flat_get (f:=oc) (k:=6) l (fun _=>rfl) j 0 o _ e rfl
  rw[h0]at this
  simp at this
 obtain⟨a,ha,hr⟩:=bufRd h hne
 refine⟨a,ha,fun i v hi=>?_⟩
 rw[Addr.add_add]
 exact hr _ v (flat_get (f:=oc) (k:=6) l (fun _=>rfl) j i o v e hi)
abbrev SV :=ByteArray×ByteArray
def svc (p:SV):List Value:=[.string p.1,.string p.2]
theorem svc_one (p:SV): ∀v∈svc p,v.oneCell'=true:=ones_of rfl
theorem flat_len_k {α:Type}{f:α->List Value}{k:Nat}(hf: ∀x,(f x).length=k): ∀l:List α,(l.flatMap f).length=l.length*k
 | []=>by simp
 |x::l=>by rw[List.flatMap_cons,List.length_append,hf,flat_len_k hf l,List.length_cons,Nat.add_mul,Nat.one_mul,Nat.add_comm]
theorem flat_set {α:Type}{f:α->List Value}{k:Nat}(hf: ∀x,(f x).length=k): ∀(l:List α) (j:Nat) (y:α),j<l.length->(l.flatMap f).take (j*k)++f y++(l.flatMap f).drop (j*k+k)=(l.set j y).flatMap f
 | [],j,_,h=>by simp at h
 |x::l,0,y,_=>by
  rw[List.set_cons_zero,List.flatMap_cons,List.flatMap_cons,Nat.zero_mul,Nat.zero_add,List.take_zero,List.nil_append,<-hf x,List.drop_left]
 |x::l,j+1,y,h=>by
  have ih:=flat_set hf l j y (by simpa using h)
  rw[List.set_cons_succ,List.flatMap_cons,List.flatMap_cons,<-ih]
  have e1:(j+1)*k=(f x).length+j*k:=by rw[hf,Nat.add_mul];omega
  rw[e1,List.take_length_add_append,Nat.add_assoc,List.drop_length_add_append]
  simp[List.append_assoc]
theorem rowBuf {α:Type}{f:α->List Value}{k:Nat}(hf: ∀x,(f x).length=k)(hk:0<k){d:Sl}{l:List α}{j:Nat}{x:α}{L R w}(h:Sat w L)(t:Take L (Buf k d (l.flatMap f)) R)(e:l[j]? =some x): ∃a,d.a=some a/\RdL w (a.add (j*k)) (f x):=by
 have hlt:0<(f x).length:=by rw[hf];exact hk
 have h0:(f x)[0]? =some ((f x)[0]'hlt):=List.getElem?_eq_getElem hlt
 obtain⟨a,ha,_⟩:=rdBuf h t (flat_get (f:=f) l hf j 0 x _ e h0)
 refine⟨a,ha,fun i v hi=>?_⟩
 obtain⟨a',ha',hv⟩:=rdBuf h t (flat_get (f:=f) l hf j i x v e hi)
 rw[ha]at ha'
 injection ha' with ha'
 rw[Addr.add_add,ha']
 exact hv
theorem bufSt {k:Nat}{d:Sl}{cs vs:List Value}{a:Addr}{o:Nat}{L w w1}{K:WP}(h:Sat w (Buf k d cs::L))[Near w w1](ha:d.a=some a)(hl:o+vs.length<=cs.length)(h1: ∀v∈vs,v.oneCell'=true)
  (c: ∀w',Sat w' (Buf k d (cs.take o++vs++cs.drop (o+vs.length))::L)->K w'):StL (a.add o) vs K w1:=by
 replace h:=h.near (w':=w1)
 obtain⟨g,hg,hr⟩:=h
 unfold Buf at hg
 rw[ha]at hg
 obtain⟨e1,sp,e2,hA⟩:=hg
 have⟨hok,hsat⟩:=setArr (p:=a) (vs:=vs) (xs:=cs++sp) (o:=o) (w:=w1) (L:=L) (by rw[List.length_append];omega) ⟨g,hA,hr⟩ h1
 refine⟨hok,c _ (hsat.cons fun g' hg'=>?_)⟩
 unfold Buf
 rw[ha]
 have l1:(cs.take o++vs++cs.drop (o+vs.length)).length=cs.length:=by
  rw[List.length_append,List.length_append,List.length_take,List.length_drop];omega
 refine⟨by rw[l1];exact e1,sp,by rw[l1];exact e2,?_⟩
 rw[List.take_append_of_le_length om,List.drop_append_of_le_length om,<-List.append_assoc]at hg'
 exact hg'
theorem rowsSt {α:Type}{f:α->List Value}{k:Nat}(hf: ∀x,(f x).length=k){d:Sl}{l:List α}{j:Nat}{y:α}{a:Addr}{L w w1}{K:WP}(h:Sat w (Buf k d (l.flatMap f)::L))[Near w w1](ha:d.a=some a)(hj:j<l.length)(h1: ∀v∈f y,v.oneCell'=true)
  (c: ∀w',Sat w' (Buf k d ((l.set j y).flatMap f)::L)->K w'):StL (a.add (j*k)) (f y) K w1:=by
 have hl:=flat_len_k hf l
 refine bufSt h ha ?_ h1 fun w' h=>c w' ?_
 ·rw[hl,hf]
  calc j*k+k=(j+1)*k:=by rw[Nat.add_mul,Nat.one_mul]
   _<=l.length*k:=Nat.mul_le_mul_right _ hj
 ·rw[<-flat_set hf l j y hj,<-hf y]
  rw[hf y]at h|-
  exact h
def rsStep (k:KeyM)(out:List SV):List SV:=if k.tr%256=19 then []else(out.filter fun p=>decide (p.1≠k.suf))++(if k.tr%256=21 then [(k.suf,k.val)]else [])
def rsAll (ks:List KeyM)(s0:List SV):List SV:=ks.foldr rsStep s0
theorem rsStep_len (k:KeyM)(out:List SV):(rsStep k out).length<=out.length+1:=by
 unfold rsStep
 split
 ·simp
 ·rw[List.length_append]
  have:=List.length_filter_le (fun p:SV=>decide (p.1≠k.suf)) out
  split
  ·rw[List.length_cons,List.length_nil];omega
  ·rw[List.length_nil];omega
theorem rsAll_len (s0:List SV): ∀ks:List KeyM,(rsAll ks s0).length<=s0.length+ks.length
 | []=>by simp[rsAll]
 |k::ks=>by
  have h1:=rsAll_len s0 ks
  have h2:=rsStep_len k (rsAll ks s0)
  show(rsStep k (rsAll ks s0)).length<=_
  rw[List.length_cons];omega
def SvIn (R:List Chunk)(x:Sl)(s:List SV):Prop:=x.n=s.length/\ ∀w,Sat w R->RdS w x.a (x.n*2) (s.flatMap svc)
structure SvRes (s res:List SV):Prop where
 perm:res.Perm s
 so:res.Pairwise fun a b=>bcmp a.1 b.1<=0
set_option maxHeartbeats 1000000 in
theorem sort31 {out:Sl}{c0:List SV}{R}{w:World}{K:Sl->WP}(hn:out.n=c0.length)(hl:c0.length<2^40)(h:Sat w (Buf 2 out (c0.flatMap svc)::R))(k: ∀res w',SvRes c0 res->Sat w' (Buf 2 out (res.flatMap svc)::R)->K out w'):
  Tr.Loop (fun(next29:Int->WP) (s28:Int) w=>(if(decide (s28<(out.n:Int)))=true then Tr.Loop (fun(next31:Int->WP) (s30:Int) w=>Tr.Join (fun(s32:Sl×Int×Addr×Addr×ByteArray×Sl×Int×Int×Addr×Addr×ByteArray×Bool) w=>(0<=(IntKind.i64.wrap (s30-(1:Int)))/\(IntKind.i64.wrap (s30-(1:Int)))<(out.n:Int))/\(∃e34,out.a=some e34/\Ld (.agg [.str,.str]) (e34.add ((IntKind.i64.wrap (s30-(1:Int))).toNat*2)) (fun(x35:ByteArray×ByteArray) w=>(0<=s30/\s30<(out.n:Int))/\(∃e36,out.a=some e36/\Ld (.agg [.str,.str]) (e36.add (s30.toNat*2)) (fun(x37:ByteArray×ByteArray) w=>(0<=s30/\s30<(out.n:Int))/\(∃e38,out.a=some e38/\StL (e38.add (s30.toNat*2)) [.string x35.1,.string x35.2] (fun w=>(0<=(IntKind.i64.wrap (s30-(1:Int)))/\(IntKind.i64.wrap (s30-(1:Int)))<(out.n:Int))/\(∃e39,out.a=some e39/\StL (e39.add ((IntKind.i64.wrap (s30-(1:Int))).toNat*2)) [.string x37.1,.string x37.2] (fun w=>next31 (IntKind.i64.wrap (s30-(1:Int))) w) w)) w)) w)) w.drew)) (fun J_33=>(if(decide (s30>(0:Int)))=true then(0<=s30/\s30<(out.n:Int))/\(∃e40,out.a=some e40/\Ld (.one .str) ((e40.add (s30.toNat*2)).add 0) (fun(Suffix41:ByteArray) w=>(0<=(IntKind.i64.wrap (s30-(1:Int)))/\(IntKind.i64.wrap (s30-(1:Int)))<(out.n:Int))/\(∃e42,out.a=some e42/\Ld (.one .str) ((e42.add ((IntKind.i64.wrap (s30-(1:Int))).toNat*2)).add 0) (fun(Suffix43:ByteArray) w=>(if(Op.bytesLess Suffix41.toList Suffix43.toList)=true then J_33 (out,s30,(e40.add (s30.toNat*2)),((e40.add (s30.toNat*2)).add 0),Suffix41,out,s30,(IntKind.i64.wrap (s30-(1:Int))),(e42.add ((IntKind.i64.wrap (s30-(1:Int))).toNat*2)),((e42.add ((IntKind.i64.wrap (s30-(1:Int))).toNat*2)).add 0),Suffix43,(Op.bytesLess Suffix41.toList Suffix43.toList)) w else next29 (IntKind.i64.wrap (s28+(1:Int))) w)) w)) w.drew)else next29 (IntKind.i64.wrap (s28+(1:Int))) w.drew))) s28 w else K out w)) (0:Int) w:=by
 refine⟨fun m (z:Int) w=> ∃(i:Nat) (cur:List SV),z=(i:Int)/\i<=c0.length/\m=c0.length-i/\cur.Perm c0/\(cur.take i).Pairwise (fun a b=>bcmp a.1 b.1<=0)/\Sat w (Buf 2 out (cur.flatMap svc)::R),⟨_,0,c0,rfl,Nat.zero_le _,rfl,List.Perm.refl _,by simp,h⟩,?_⟩
 clear h
 rintro m z w ⟨i,cur,rfl,hi,hm,hp,hs,h⟩
 have hcl:=hp.length_eq
 refine ifd (fun hlt=>?_) (fun hge=>?_)
 rotate_left
 ·have:cur.take i=cur:=List.take_of_length_le om
  rw[this]at hs
  exact k cur w ⟨hp,hs⟩ h
 have hic:i<cur.length:=by omega
 rw[w1 om]
 have hdc:cur=cur.take i++cur[i]::([]++cur.drop (i+1)):=by rw[List.nil_append,<-List.drop_eq_getElem_cons hic,List.take_append_drop]
 refine⟨fun m' (z:Int) w=> ∃(A:List SV) (x:SV) (B C:List SV),z=(A.length:Int)/\m'=A.length/\A.length+B.length=i/\(A++B).Pairwise (fun a b=>bcmp a.1 b.1<=0)/\(∀b∈B,bcmp x.1 b.1<0)/\(A++x::(B++C)).Perm c0/\Sat w (Buf 2 out ((A++x::(B++C)).flatMap svc)::R),
  ⟨_,cur.take i,cur[i],[],cur.drop (i+1),by rw[List.length_take];congr 1;omega,rfl,by rw[List.length_take,List.length_nil];omega,by rw[List.append_nil];exact hs,fun b hb=>by simp at hb,hdc▸hp,hdc▸h⟩,?_⟩
 clear h hdc hs hp hic hcl cur
 rintro m' z w ⟨A,x,B,C,rfl,rfl,hAB,hso,hx,hp,h⟩
 have hpl:=hp.length_eq
 rw[List.length_append,List.length_cons,List.length_append]at hpl
 have done: ∀w,(∀a∈A,bcmp a.1 x.1<=0)->Sat w (Buf 2 out ((A++x::(B++C)).flatMap svc)::R)-> ∃m',m'<m/\ ∃(i':Nat) (cur:List SV),((i+1:Nat):Int)=(i':Int)/\i'<=c0.length/\m'=c0.length-i'/\cur.Perm c0/\(cur.take i').Pairwise (fun a b=>bcmp a.1 b.1<=0)/\Sat w (Buf 2 out (cur.flatMap svc)::R):=fun w hA h=>by
  refine⟨c0.length-(i+1),by omega,i+1,A++x::(B++C),rfl,by omega,rfl,hp,?_,h⟩
  have e1:A++x::(B++C)=(A++x::B)++C:=by simp
  rw[e1,List.take_append_of_le_length (by rw[List.length_append,List.length_cons];omega),List.take_of_length_le (by rw[List.length_append,List.length_cons];omega)]
  rw[List.pairwise_append]at hso|-
  refine⟨hso.1,List.pairwise_cons.2 ⟨fun b hb=>Int.le_of_lt (hx b hb),hso.2.1⟩,fun a ha b hb=>?_⟩
  rcases List.mem_cons.1 hb with rfl|hb
  ·exact hA a ha
  ·exact hso.2.2 a ha b hb
 have hat:(A++x::(B++C))[A.length]? =some x:=by simp
 refine⟨fun _ w=> ∃(A':List SV) (a:SV),A=A'++[a]/\bcmp x.1 a.1<0/\Sat w (Buf 2 out ((A++x::(B++C)).flatMap svc)::R),?_,?_⟩
 ·clear h done
  rintro _ w ⟨A',a,rfl,hlt2,h⟩
  have hl1:(A'++[a]).length=A'.length+1:=by rw[List.length_append];rfl
  rw[hl1]at hat hAB|-
  have ew:IntKind.i64.wrap (((A'.length+1:Nat):Int)-1)=(A'.length:Int):=by rw[wi64 om om];omega
  rw[ew,Int.toNat_natCast,Int.toNat_natCast]
  have hat2:((A'++[a])++x::(B++C))[A'.length]? =some a:=by simp
  obtain⟨e,he,hr1⟩:=rowBuf (f:=svc) (k:=2) (fun _=>rfl) (by decide) h .here hat2
  obtain⟨e',he',hr2⟩:=rowBuf (f:=svc) (k:=2) (fun _=>rfl) (by decide) h .here hat
  rw[he]at he'
  injection he' with he'
  subst he'
  unfold svc at hr1 hr2
  have hpl2:A'.length+1+(B.length+C.length+1)=c0.length:=by rw[<-hpl,hl1]
  refine⟨⟨by omega,by omega⟩,e,he,LdR (Near.rdL hr1) ⟨⟨by omega,by omega⟩,e,he,LdR (Near.rdL hr2) ⟨⟨by omega,by omega⟩,e,he,?_⟩⟩⟩
  refine rowsSt (f:=svc) (fun _=>rfl) (y:=a) h he (by simp) (svc_one a) fun w h=>⟨⟨by omega,by omega⟩,e,he,?_⟩
  refine rowsSt (f:=svc) (fun _=>rfl) (y:=x) h he (by simp) (svc_one x) fun w h=>?_
  have es:(((A'++[a])++x::(B++C)).set (A'.length+1) a).set A'.length x=A'++x::((a::B)++C):=by simp
  rw[es]at h
  have pe:(A'++x::((a::B)++C)).Perm ((A'++[a])++x::(B++C)):=by
   rw[List.append_assoc]
   exact List.Perm.append_left A' (List.Perm.swap a x (B++C))
  refine⟨A'.length,by omega,A',x,a::B,C,rfl,rfl,by rw[List.length_cons];omega,by simpa using hso,fun b hb=>?_,pe.trans hp,h⟩
  rcases List.mem_cons.1 hb with rfl|hb
  ·exact hlt2
  ·exact hx b hb
 ·refine ifd (fun hpos=>?_) (fun hz=>done _ (fun a ha=>?_) h.near)
  ·obtain⟨A',a,rfl⟩: ∃A' a,A=A'++[a]:=by
    rcases List.eq_nil_or_concat A with rfl|⟨A',a,rfl⟩
    ·simp at hpos
    ·exact⟨A',a,by simp⟩
   have hl1:(A'++[a]).length=A'.length+1:=by rw[List.length_append];rfl
   rw[hl1]at hat hAB hpl|-
   have ew:IntKind.i64.wrap (((A'.length+1:Nat):Int)-1)=(A'.length:Int):=by rw[wi64 om om];omega
   rw[ew,Int.toNat_natCast,Int.toNat_natCast]
   have hat2:((A'++[a])++x::(B++C))[A'.length]? =some a:=by simp
   obtain⟨e,he,hr1⟩:=rowBuf (f:=svc) (k:=2) (fun _=>rfl) (by decide) (h.near (w':=w.drew)) .here hat2
   obtain⟨e',he',hr2⟩:=rowBuf (f:=svc) (k:=2) (fun _=>rfl) (by decide) (h.near (w':=w.drew)) .here hat
   rw[he]at he'
   injection he' with he'
   subst he'
   refine⟨⟨by omega,by omega⟩,e,he,LdC (v:=.string x.1) (hr2 0 _ rfl) ⟨⟨by omega,by omega⟩,e,he,LdC (v:=.string a.1) (hr1 0 _ rfl) ?_⟩⟩
   rw[bytesLess_b]
   refine ifd (fun hlt2=>⟨A',a,rfl,hlt2,h.near⟩) (fun hge2=>done _ (fun b hb=>?_) h.near)
   have hax:bcmp a.1 x.1<=0:=by have:=bcmp_anti x.1 a.1;omega
   rcases List.mem_append.1 hb with hb|hb
   ·rw[List.append_assoc,List.pairwise_append]at hso
    exact bcmp_trans (hso.2.2 b hb a (by simp)) hax
   ·rw[List.mem_singleton.1 hb];exact hax
  ·have:A=[]:=List.length_eq_zero_iff.1 om
   rw[this]at ha
   simp at ha
theorem rsAll_drop {ks:List KeyM}{s0:List SV}{j:Nat}(hj:j<ks.length):rsAll (ks.drop j) s0=rsStep ks[j] (rsAll (ks.drop (j+1)) s0):=by
 rw[List.drop_eq_getElem_cons hj];rfl
theorem pkc_k (m:KeyM):(pkc m).length=3:=rfl
theorem svc_k (p:SV):(svc p).length=2:=rfl
def TrOK (m:KeyM):Prop:=0<=m.tr/\m.tr<18446744073709551616
theorem wu8_tr {m:KeyM}(h:TrOK m):IntKind.u8.wrap m.tr=m.tr%256:=by
 obtain⟨h0,h1⟩:=h
 simp only[IntKind.wrap,IntKind.bits,IntKind.signed,Bool.false_and,Bool.false_eq_true,if_false]
 omega
set_option maxHeartbeats 2000000 in
theorem spec31 {state keys:Sl}{s0:List SV}{ks:List KeyM}{R w}{K:Sl->WP}(hst:SvIn R state s0)(hsl:s0.length<=2^20)(hkn:keys.n=ks.length)(hkl:ks.length<=2^20)(hks: ∀m∈ks,TrOK m)(h:Sat w (Buf 3 keys (ks.flatMap pkc)::R))
  (k: ∀out res w',out.n=res.length->SvRes (rsAll ks s0) res->Sat w' (Buf 2 out (res.flatMap svc)::R)->K out w'):F31 state keys K w:=by
 unfold F31
 refine NewS_run h fun p w h=>?_
 have hrd:=hst.2 w h.tail.tail
 refine AppP_run (s:=si31) (d:=⟨some p,0,0⟩) (old:=[]) (new:=s0.flatMap svc) (Sat.buf0 (sp:=[]) rfl h) hrd (by rw[hst.1];exact flat_len_k svc_k s0) (fun v hv=>?_) ?_ ?_ fun a w ha _ h=>?_
 ·obtain⟨x,_,hx⟩:=List.mem_flatMap.1 hv
  exact svc_one x v hx
 ·have:=hst.1
  show(2*(0+state.n)+1024)*32<=_
  omega
 ·have:=hst.1
  dsimp only;omega
 have ha':a.n=s0.length:=by rw[ha,hst.1];exact Nat.zero_add _
 have ew:IntKind.i64.wrap ((keys.n:Int)-1)=(ks.length:Int)-1:=by rw[wi64 om om,hkn]
 rw[ew]
 refine⟨fun m (z:Sl×Int) w=> ∃j:Nat,z.2=(j:Int)-1/\m=j/\j<=ks.length/\z.1.n=(rsAll (ks.drop j) s0).length/\Sat w (Buf 2 z.1 ((rsAll (ks.drop j) s0).flatMap svc)::Buf 3 keys (ks.flatMap pkc)::R),
  ⟨_,ks.length,rfl,rfl,Nat.le_refl _,by rw[List.drop_length];exact ha',by rw[List.drop_length];exact h⟩,?_⟩
 clear h ha ha' hrd
 rintro m ⟨out,z⟩ w ⟨j,e,rfl,hj,hon,h⟩
 dsimp only at e hon h|-
 subst e
 have hol:=rsAll_len s0 (ks.drop m)
 rw[List.length_drop]at hol
 refine ifd (fun hge=>?_) (fun hlt=>?_)
 rotate_left
 ·have:m=0:=by omega
  subst this
  rw[List.drop_zero]at hon h hol
  exact sort31 hon om h fun res w hr h=>k out res w (by rw[hon,hr.perm.length_eq]) hr ((h.mv 1).tail)
 have hjm:m-1<ks.length:=by omega
 have hdrop:=rsAll_drop (s0:=s0) hjm
 rw[show m-1+1=m by omega]at hdrop
 have hkt:=hks _ (List.getElem_mem hjm)
 have hk1:ks[m-1]? =some ks[m-1]:=List.getElem?_eq_getElem hjm
 generalize ks[m-1]=q at hdrop hkt hk1
 obtain⟨e,he,hr⟩:=rowBuf (f:=pkc) (k:=3) pkc_k (by decide) h .k1 hk1
 unfold pkc at hr
 have ez:((m:Int)-1).toNat=m-1:=by omega
 have ew2:IntKind.i64.wrap ((m:Int)-1-1)=((m-1:Nat):Int)-1:=by rw[wi64 om om];omega
 rw[ez,ew2]
 generalize rsAll (ks.drop m) s0=cur at hon h hol hdrop
 refine⟨⟨by omega,by omega⟩,e,he,LdR hr (NewP_run h fun n w h=>StL_of (St1 h rfl fun w h=>St1 h rfl fun w h=>St1 h rfl fun w h=>Ld1 h ?_))⟩
 refine call57 ?_
 unfold F57
 rw[wu8_tr hkt]
 refine ife (fun h19=>?_) (fun h19=>?_)
 ·refine⟨m-1,by omega,m-1,rfl,rfl,by omega,?_,?_⟩
  ·rw[hdrop];unfold rsStep;rw[if_pos h19];rfl
  ·rw[hdrop];unfold rsStep;rw[if_pos h19]
   exact(h.tail.tail).bufNil 2
 refine⟨fun m' (z:Sl×Int) w=> ∃i:Nat,z.2=(i:Int)/\m'=cur.length-i/\i<=cur.length/\z.1.n=((cur.take i).filter fun p=>decide (p.1≠q.suf)).length/\Sat w (Buf 2 z.1 (((cur.take i).filter fun p=>decide (p.1≠q.suf)).flatMap svc)::Arr n [.int .u64 q.tr,.string q.suf,.string q.val]::Buf 2 out (cur.flatMap svc)::Buf 3 keys (ks.flatMap pkc)::R),
  ⟨_,0,rfl,rfl,Nat.zero_le _,rfl,h.bufNil 2⟩,?_⟩
 clear h
 rintro m' ⟨nx,z⟩ w ⟨i,e,rfl,hi,hnn,h⟩
 dsimp only at e hnn h|-
 subst e
 have hfl:=List.length_filter_le (fun p:SV=>decide (p.1≠q.suf)) (cur.take i)
 rw[List.length_take]at hfl
 refine ifd (fun hlt=>?_) (fun hge2=>?_)
 ·have hic:i<cur.length:=by omega
  have hi1:cur[i]? =some cur[i]:=List.getElem?_eq_getElem hic
  have htk:cur.take (i+1)=cur.take i++[cur[i]]:=by rw[List.take_add_one,hi1];rfl
  generalize cur[i]=p at hi1 htk
  obtain⟨e,he,hr⟩:=rowBuf (f:=svc) (k:=2) svc_k (by decide) h .k2 hi1
  unfold svc at hr
  rw[w1 om,Int.toNat_natCast]
  refine⟨⟨by omega,hlt⟩,e,he,LdR hr (NewP_run h fun n2 w h=>StL_of (St1 h rfl fun w h=>St1 h rfl fun w h=>Ld1 h (Ld1 h ?_)))⟩
  rw[toList_beq]
  refine ifn (fun hne=>?_) (fun heq=>?_)
  ·have hne':=of_decide_eq_false hne
   refine LdN h (NewS_run h fun p9 w h=>?_)
   refine App1 (k:=2) rfl h .k2 .here rfl (svc_one p) ?_ om fun r w er ea h=>?_
   ·show(2*(nx.n+1)+1024)*32<=_
    omega
   have ef:(cur.take (i+1)).filter (fun p=>decide (p.1≠q.suf))=(cur.take i).filter (fun p=>decide (p.1≠q.suf))++[p]:=by rw[htk,List.filter_append,List.filter_cons_of_pos (by rw[decide_eq_true_eq];exact hne'),List.filter_nil]
   refine⟨cur.length-(i+1),by omega,i+1,rfl,rfl,by omega,by rw[ef,List.length_append];rw[er,hnn];rfl,?_⟩
   rw[ef,List.flatMap_append,List.flatMap_singleton]
   exact((h.mv 1).tail.mv 1).tail
  ·have heq':=of_decide_eq_true heq
   have ef:(cur.take (i+1)).filter (fun p=>decide (p.1≠q.suf))=(cur.take i).filter (fun p=>decide (p.1≠q.suf)):=by rw[htk,List.filter_append,List.filter_cons_of_neg (by rw[decide_eq_true_eq];exact fun h9=>h9 heq'),List.filter_nil,List.append_nil]
   refine⟨cur.length-(i+1),by omega,i+1,rfl,rfl,by omega,by rw[ef];exact hnn,?_⟩
   rw[ef]
   exact h.tail
 ·have hie:cur.take i=cur:=List.take_of_length_le om
  rw[hie]at hnn h hfl
  refine Ld1 h (call57 ?_)
  unfold F57
  rw[wu8_tr hkt]
  refine ife (fun h21=>?_) (fun h21=>?_)
  ·refine Ld1 h (Ld1 h (NewS_run h fun p9 w h=>?_))
   refine App1 (k:=2) rfl h .k1 .here rfl (svc_one (q.suf,q.val)) ?_ om fun r w er ea h=>?_
   ·show(2*(nx.n+1)+1024)*32<=_
    omega
   have ef:rsStep q cur=(cur.filter fun p=>decide (p.1≠q.suf))++[(q.suf,q.val)]:=by unfold rsStep;rw[if_neg h19,if_pos h21]
   refine⟨m-1,by omega,m-1,rfl,rfl,by omega,by rw[hdrop,ef,List.length_append];rw[er,hnn];rfl,?_⟩
   rw[hdrop,ef,List.flatMap_append,List.flatMap_singleton]
   exact(((h.mv 1).tail.mv 1).tail.mv 1).tail
  ·have ef:rsStep q cur=(cur.filter fun p=>decide (p.1≠q.suf)):=by unfold rsStep;rw[if_neg h19,if_neg h21,List.append_nil]
   refine⟨m-1,by omega,m-1,rfl,rfl,by omega,by rw[hdrop,ef];exact hnn,?_⟩
   rw[hdrop,ef]
   exact((h.mv 1).tail.mv 1).tail
def bsIn (kb:ByteArray)(o:OpM):Bool:=decide ((o.kind=19\/o.kind=20\/o.kind=21)/\bcmp o.key kb<=0/\bcmp kb o.end_<0)
def bsKey (o:OpM):KeyM:=⟨(o.kind:Int),o.suf,o.val⟩
def bsKeys (kb:ByteArray)(l:List OpM):List KeyM:=((l.filter (bsIn kb)).map bsKey).reverse
theorem bsKeys_snoc (kb:ByteArray)(l:List OpM)(o:OpM):bsKeys kb (l++[o])=(if bsIn kb o then [bsKey o]else [])++bsKeys kb l:=by
 unfold bsKeys
 rw[List.filter_append,List.map_append,List.reverse_append]
 congr 1
 by_cases h:bsIn kb o=true
 ·simp[h]
 ·simp[h]
theorem bsKeys_len (kb:ByteArray)(l:List OpM):(bsKeys kb l).length<=l.length:=by
 unfold bsKeys
 rw[List.length_reverse,List.length_map]
 exact List.length_filter_le _ _
theorem bsKeys_tr (kb:ByteArray)(l:List OpM): ∀m∈bsKeys kb l,TrOK m:=by
 intro m hm
 unfold bsKeys at hm
 rw[List.mem_reverse]at hm
 obtain⟨o,ho,rfl⟩:=List.mem_map.1 hm
 have:=of_decide_eq_true (List.mem_filter.1 ho).2
 unfold TrOK bsKey
 dsimp only
 omega
set_option maxHeartbeats 2000000 in
theorem spec12 {state ops:Sl}{s0:List SV}{l:List OpM}{kb:ByteArray}{R w}{K:Sl->WP}(hst:SvIn R state s0)(hsl:s0.length<=2^20)(hl:l.length<=512)(hops:OpsIn R ops l)(h:Sat w R)
  (k: ∀out res w',out.n=res.length->SvRes (rsAll (bsKeys kb l) s0) res->Sat w' (Buf 2 out (res.flatMap svc)::R)->K out w'):F12 state ops kb K w:=by
 unfold F12
 have hn:=hops.1
 refine⟨fun m (z:Sl×Int) w=> ∃j:Nat,z.2=(j:Int)/\j<=l.length/\m=l.length-j/\z.1.n=(bsKeys kb (l.take j)).length/\Sat w (Buf 3 z.1 ((bsKeys kb (l.take j)).flatMap pkc)::R),⟨_,0,rfl,Nat.zero_le _,rfl,rfl,h.bufNil 3⟩,?_⟩
 clear h
 rintro m ⟨out,z⟩ w ⟨j,e,hj,hm,hon,h⟩
 dsimp only at e hon h|-
 subst e
 refine ifd (fun hlt=>?_) (fun hge=>?_)
 ·have hjl : j < l.length := by omega
  have hbl:=bsKeys_len kb (l.take j)
  rw[List.length_take]at hbl
  obtain⟨e,he,hr⟩:=opAt hops hjl h.tail
  have htk:l.take (j+1)=l.take j++[l[j]]:=by rw[List.take_add_one,List.getElem?_eq_getElem hjl];rfl
  generalize l[j]=o at hr htk
  rw[w1 om,Int.toNat_natCast]
  refine⟨⟨by omega,hlt⟩,e,he,LdR hr (NewP_run h fun n w h=>StL_of (St1 h rfl fun w h=>St1 h rfl fun w h=>St1 h rfl fun w h=>St1 h rfl fun w h=>St1 h rfl fun w h=>St1 h rfl fun w h=>?_))⟩
  simp only[StC]
  refine⟨fun b w=>b=bsIn kb o/\Sat w (Arr n [.int .u8 (o.kind:Int),.string o.key,.string o.val,.string o.end_,.string o.suf,.int .u32 (o.size:Int)]::Buf 3 out ((bsKeys kb (l.take j)).flatMap pkc)::R),?_,?_⟩
  ·clear h
   rintro b w ⟨hb,h⟩
   refine ifb (fun hbt=>?_) (fun hbf=>?_)
   ·rw [hbt] at hb
    have hk:=of_decide_eq_true hb.symm
    refine Ld1 h (Ld1 h (Ld1 h (NewP_run h fun n2 w h=>StL_of (St1 h rfl fun w h=>St1 h rfl fun w h=>St1 h rfl fun w h=>LdN h (NewS_run h fun p w h=>?_)))))
    have h2:Sat w (Buf 3 ⟨some p,1,1⟩ (pkc (bsKey o))::Arr n2 [.int .u64 (IntKind.u64.wrap (o.kind:Int)),.string o.suf,.string o.val]::Arr n [.int .u8 (o.kind:Int),.string o.key,.string o.val,.string o.end_,.string o.suf,.int .u32 (o.size:Int)]::Buf 3 out ((bsKeys kb (l.take j)).flatMap pkc)::R):=by
     refine h.cons fun g hg=>⟨rfl,[],rfl,?_⟩
     rw[List.append_nil]
     unfold pkc bsKey
     dsimp only
     rw[<-wu64n (n:=o.kind) om]
     exact hg
    have hrd:RdS w out.a (out.n*si62.l.length) ((bsKeys kb (l.take j)).flatMap pkc):=by
     show RdS w out.a (out.n*3) _
     by_cases h0:(bsKeys kb (l.take j)).flatMap pkc=[]
     ·rw[h0]
      cases ea:out.a with
      |none=>rfl
      |some a=>
       refine⟨?_,fun i v e=>by simp at e⟩
       have:=flat_len_k pkc_k (bsKeys kb (l.take j))
       rw[h0]at this
       rw[hon];exact this
     ·obtain⟨a,ha,hr⟩:=bufRd (((h2.mv 3)):Sat w (Buf 3 out ((bsKeys kb (l.take j)).flatMap pkc)::_)) h0
      rw[ha]
      exact⟨by rw[flat_len_k pkc_k,hon],hr⟩
    refine AppP_run (s:=si62) (d:=⟨some p,1,1⟩) h2 hrd (by rw[hon];exact flat_len_k pkc_k _) (fun v hv=>?_) ?_ ?_ fun a w ha _ h=>?_
    ·obtain⟨x,_,hx⟩:=List.mem_flatMap.1 hv
     exact pkc_one x v hx
    ·show(2*(1+out.n)+1024)*40<=_
     omega
    ·dsimp only;omega
    have eb:bsKeys kb (l.take (j+1))=bsKey o::bsKeys kb (l.take j):=by rw[htk,bsKeys_snoc,if_pos hb.symm];rfl
    refine⟨_,?_,j+1,rfl,hjl,rfl,by rw[eb,ha,hon,List.length_cons];exact Nat.add_comm _ _,?_⟩
    ·omega
    ·rw[eb,List.flatMap_cons]
     exact(((h.mv 1).tail.mv 1).tail.mv 1).tail
   ·rw[hbf]at hb
    have eb:bsKeys kb (l.take (j+1))=bsKeys kb (l.take j):=by rw[htk,bsKeys_snoc,<-hb];rfl
    exact⟨l.length-(j+1),by omega,j+1,rfl,hjl,rfl,by rw[eb];exact hon,by rw[eb];exact h.tail⟩
  ·refine Ld1 h (ifd (fun h1=>Ld1 h (ifd (fun h2=>Ld1 h ?_) fun h2=>⟨?_,h⟩)) fun h1=>⟨?_,h⟩)
   ·dsimp only at h1 h2|-
    rw[bytesLess_b,toList_beq]
    refine ifb (fun h3=>Ld1 h ⟨?_,h⟩) (fun h3=>⟨?_,h⟩)
    ·dsimp only
     rw[bytesLess_b]
     have h3':bcmp o.key kb<=0:=by
      rw[Bool.or_eq_true,decide_eq_true_eq,decide_eq_true_eq]at h3
      rcases h3 with h3|h3
      ·omega
      ·rw[h3,bcmp_refl];exact Int.le_refl _
     unfold bsIn
     rw[Bool.eq_iff_iff,decide_eq_true_eq,decide_eq_true_eq]
     omega
    ·have h3': ¬bcmp o.key kb<=0:=fun h9=>by
      rw[Bool.or_eq_false_iff,decide_eq_false_iff_not,decide_eq_false_iff_not]at h3
      exact h3.2 (bcmp_zero om)
     exact(decide_eq_false fun h9=>h3' h9.2.1).symm
   ·dsimp only at h1 h2
    exact(decide_eq_false om).symm
   ·dsimp only at h1
    exact(decide_eq_false om).symm
 ·have hjl:j=l.length:=by omega
  subst hjl
  rw[List.take_length]at hon h
  have hbl:=bsKeys_len kb l
  exact call31 (spec31 hst hsl hon om (bsKeys_tr kb l) h k)
theorem rsStep_congr {k k':KeyM}(h1:k.tr%256=k'.tr%256)(h2:k.tr%256≠19->k.suf=k'.suf)(h3:k.tr%256=21->k.val=k'.val)(s:List SV):rsStep k s=rsStep k' s:=by
 unfold rsStep
 rw[<-h1]
 by_cases e:k.tr%256=19
 ·rw[if_pos e,if_pos e]
 ·rw[if_neg e,if_neg e,h2 e]
  by_cases e2:k.tr%256=21
  ·rw[if_pos e2,if_pos e2,h3 e2]
  ·rw[if_neg e2,if_neg e2]
theorem rsAll_congr {α:Type}{f g:α->KeyM}{s0:List SV}: ∀{l:List α},(∀x∈l,∀s,rsStep (f x) s=rsStep (g x) s)->rsAll (l.map f) s0=rsAll (l.map g) s0
 | [],_=>rfl
 |x::l,h=>by
  show rsStep (f x) (rsAll (l.map f) s0)=rsStep (g x) (rsAll (l.map g) s0)
  rw[rsAll_congr fun y hy=>h y (by simp[hy]),h x (by simp)]
theorem rsStep_nodup (k:KeyM){s:List SV}(h:(s.map Prod.fst).Nodup):((rsStep k s).map Prod.fst).Nodup:=by
 unfold rsStep
 split
 ·simp
 ·rw[List.map_append,List.nodup_append]
  refine⟨(List.filter_sublist.map _).nodup h,by split<;>simp,fun a ha b hb e=>?_⟩
  subst e
  obtain⟨p,hp,rfl⟩:=List.mem_map.1 ha
  have h1:=of_decide_eq_true (List.mem_filter.1 hp).2
  split at hb
  ·simp at hb;exact h1 hb
  ·simp at hb
theorem rsAll_nodup {s0:List SV}(h:(s0.map Prod.fst).Nodup): ∀ks:List KeyM,((rsAll ks s0).map Prod.fst).Nodup
 | []=>h
 |k::ks=>rsStep_nodup k (rsAll_nodup h ks)
theorem rsStep_perm (k:KeyM){s t:List SV}(h:s.Perm t):(rsStep k s).Perm (rsStep k t):=by
 unfold rsStep
 split
 ·exact List.Perm.refl _
 ·exact(h.filter _).append_right _
theorem rsAll_perm {s t:List SV}(h:s.Perm t): ∀ks:List KeyM,(rsAll ks s).Perm (rsAll ks t)
 | []=>h
 |k::ks=>rsStep_perm k (rsAll_perm h ks)
theorem rsAll_app (a b:List KeyM)(s:List SV):rsAll (a++b) s=rsAll a (rsAll b s):=by unfold rsAll;rw[List.foldr_append]
theorem rs_mem_aux : ∀(n:Nat) (ms:List KeyM),ms.length=n->ms.Pairwise (fun a b=>a.tr<b.tr)-> ∀s v,(s,v)∈rsAll ms.reverse []↔ ∃m∈ms,m.tr%256=21/\m.suf=s/\m.val=v/\ ∀m'∈ms,m.tr<m'.tr->m'.tr%256≠19/\m'.suf≠s
 |0,ms,hn,_,s,v=>by
  have:=List.length_eq_zero_iff.1 hn
  subst this
  simp[rsAll]
 | n + 1, ms, hn, hp, s, v => by
  rcases List.eq_nil_or_concat ms with rfl|⟨ms',k,rfl⟩
  ·simp at hn
  rw[List.concat_eq_append]at hn hp|-
  rw[List.length_append,List.length_cons,List.length_nil]at hn
  rw[List.pairwise_append]at hp
  obtain⟨hp1,_,hp2⟩:=hp
  have hk: ∀m∈ms',m.tr<k.tr:=fun m hm=>hp2 m hm k (by simp)
  have ih:=rs_mem_aux n ms' om hp1 s v
  rw[List.reverse_append,List.reverse_singleton]
  show(s,v)∈rsStep k (rsAll ms'.reverse [])↔_
  unfold rsStep
  by_cases e:k.tr%256=19
  ·rw[if_pos e]
   refine⟨fun h=>by simp at h,?_⟩
   rintro⟨m,hm,h1,h2,h3,h4⟩
   rcases List.mem_append.1 hm with hm|hm
   ·exact absurd e (h4 k (by simp) (hk m hm)).1
   ·rw[List.mem_singleton.1 hm]at h1;omega
  ·rw [if_neg e, List.mem_append, List.mem_filter, ih, decide_eq_true_eq]
   constructor
   ·rintro(⟨⟨m,hm,h1,h2,h3,h4⟩,h5⟩|h)
    ·refine⟨m,by simp[hm],h1,h2,h3,fun m' hm' hlt=>?_⟩
     rcases List.mem_append.1 hm' with hm'|hm'
     ·exact h4 m' hm' hlt
     ·rw[List.mem_singleton.1 hm'];exact⟨e,fun h=>h5 h.symm⟩
    ·split at h
     ·rename_i e2
      rw[List.mem_singleton]at h
      injection h with h1 h2
      refine⟨k,by simp,e2,h1.symm,h2.symm,fun m' hm' hlt=>?_⟩
      rcases List.mem_append.1 hm' with hm'|hm'
      ·have:=hk m' hm';omega
      ·rw[List.mem_singleton.1 hm']at hlt;omega
     ·simp at h
   ·rintro⟨m,hm,h1,h2,h3,h4⟩
    rcases List.mem_append.1 hm with hm|hm
    ·refine .inl ⟨⟨m,hm,h1,h2,h3,fun m' hm' hlt=>h4 m' (by simp[hm']) hlt⟩,fun h=>(h4 k (by simp) (hk m hm)).2 h.symm⟩
    ·rw[List.mem_singleton.1 hm]at h1 h2 h3
     refine .inr ?_
     rw[if_pos h1,h2,h3];simp
theorem SvRes.sorted {s res:List SV}(h:SvRes s res)(nd:(s.map Prod.fst).Nodup):res.Pairwise fun a b=>bcmp a.1 b.1<0:=by
 have nd':(res.map Prod.fst).Nodup:=(h.perm.map _).nodup_iff.2 nd
 have h2:res.Pairwise fun a b=>a.1≠b.1:=List.pairwise_map.1 nd'
 exact(h.so.and h2).imp fun {a b} ⟨x,y⟩=>by
  rcases Int.lt_or_eq_of_le x with x|x
  ·exact x
  ·exact absurd (bcmp_zero x) y
theorem IsC.of_rs {sn:Int}{ms:List KeyM}{res:List SV}(hp:ms.Pairwise fun a b=>a.tr<b.tr)(hv: ∀m∈ms,m.tr/256<sn)(h:SvRes (rsAll ms.reverse []) res):IsC sn ms res:=by
 refine⟨h.sorted (rsAll_nodup (by simp) _),fun s v=>?_⟩
 rw[h.perm.mem_iff,rs_mem_aux _ ms rfl hp s v]
 constructor
 ·rintro⟨m,hm,h1,h2,h3,h4⟩
  exact⟨m,hm,hv m hm,h1,h2,h3,fun m' hm' _ hlt=>h4 m' hm' hlt⟩
 ·rintro⟨m,hm,_,h1,h2,h3,h4⟩
  exact⟨m,hm,h1,h2,h3,fun m' hm' hlt=>h4 m' hm' (hv m' hm') hlt⟩
theorem IsC.of_mem {sn:Int}{ms ms':List KeyM}{res:List SV}(hm: ∀m,m.tr/256<sn->(m∈ms↔m∈ms'))(h:IsC sn ms res):IsC sn ms' res:=by
 refine⟨h.so,fun s v=>?_⟩
 rw[h.mem]
 constructor
 ·rintro⟨m,h0,h1,h2,h3,h4,h5⟩
  exact⟨m,(hm m h1).1 h0,h1,h2,h3,h4,fun m' g0 g1 g2=>h5 m' ((hm m' g1).2 g0) g1 g2⟩
 ·rintro⟨m,h0,h1,h2,h3,h4,h5⟩
  exact⟨m,(hm m h1).2 h0,h1,h2,h3,h4,fun m' g0 g1 g2=>h5 m' ((hm m' g1).1 g0) g1 g2⟩
theorem IsC.nil {sn:Int}:IsC sn [] []:=⟨List.Pairwise.nil,fun s v=>by simp⟩
def eKey (e:EntM):KeyM:=⟨(e.tr:Int),rkSuf e.op.kind e.op.suf,rkV e.op.kind e.op.val⟩
def entIn (kb:ByteArray)(l:List OpM):List EntM:=(entL l).filter fun e=>bsIn kb e.op
theorem isRK_in (kb:ByteArray)(e:EntM):bsIn kb e.op=(isRK e&&(decide (bcmp e.op.key kb<=0)&&decide (bcmp kb e.op.end_<0))):=by
 unfold bsIn isRK
 rw[Bool.eq_iff_iff]
 simp only[decide_eq_true_eq,Bool.and_eq_true]
theorem covK_ent (kb:ByteArray)(l:List OpM):covK (((entL l).filter isRK).map spanOf) kb=(entIn kb l).map eKey:=by
 unfold entIn
 generalize entL l=E
 induction E with
 |nil=>rfl
 | cons e E ih =>
  unfold covK at ih|-
  rw[List.filter_cons,List.filter_cons (p:=fun(e:EntM)=>bsIn kb e.op),isRK_in kb e]
  cases h:isRK e with
  |false=>simpa using ih
  | true =>
   rw[Bool.true_and,if_pos rfl,List.map_cons,List.filter_cons]
   by_cases h2:(decide (bcmp e.op.key kb<=0)&&decide (bcmp kb e.op.end_<0))=true
   ·rw[if_pos h2]
    have h3:(decide (bcmp (spanOf e).lo kb<=0)&&decide (bcmp kb (spanOf e).hi<0))=true:=h2
    rw[if_pos h3,List.flatMap_cons,ih,List.map_cons];rfl
   ·rw[if_neg h2]
    have h3: ¬(decide (bcmp (spanOf e).lo kb<=0)&&decide (bcmp kb (spanOf e).hi<0))=true:=h2
    rw[if_neg h3,ih]
theorem bsKeys_ent (kb:ByteArray)(l:List OpM):bsKeys kb l=((entIn kb l).map fun e=>bsKey e.op).reverse:=by
 unfold bsKeys entIn
 congr 1
 have h:(entL l).map (·.op)=l:=ents_op l 0 12
 conv=>lhs;rw[<-h]
 rw[List.filter_map,List.map_map];rfl
theorem bsKey_step {e:EntM}(ho:OpOK e.op)(s:List SV):rsStep (bsKey e.op) s=rsStep (eKey e) s:=by
 have hk:=ho.kind
 unfold OpKind at hk
 have e1:(bsKey e.op).tr%256=(e.op.kind:Int):=by show((e.op.kind:Nat):Int)%256=_;omega
 have e2:(eKey e).tr%256=(e.op.kind:Int):=by show(((e.i*256+e.op.kind:Nat)):Int)%256=_;omega
 refine rsStep_congr (e1.trans e2.symm) (fun h=>?_) (fun h=>?_) s
 ·rw[e1]at h
  show e.op.suf=rkSuf e.op.kind e.op.suf
  unfold rkSuf
  rw[if_neg om]
 ·rw[e1]at h
  show e.op.val=rkV e.op.kind e.op.val
  unfold rkV
  rw[if_pos om]
theorem entIn_op {kb:ByteArray}{l:List OpM}(hl: ∀o∈l,OpOK o): ∀e∈entIn kb l,OpOK e.op:=fun e he=>by
 have h1:e.op∈(entL l).map (·.op):=List.mem_map.2 ⟨e,(List.mem_filter.1 he).1,rfl⟩
 rw[show(entL l).map (·.op)=l from ents_op l 0 12]at h1
 exact hl _ h1
theorem batch_rs {kb:ByteArray}{l:List OpM}(hl: ∀o∈l,OpOK o)(s0:List SV):rsAll (bsKeys kb l) s0=rsAll ((entIn kb l).map eKey).reverse s0:=by
 rw[bsKeys_ent,<-List.map_reverse,<-List.map_reverse]
 exact rsAll_congr fun e he s=>bsKey_step (entIn_op hl e (List.mem_reverse.1 he)) s
theorem ents_tr : ∀(l:List OpM) (i off:Nat),(∀o∈l,OpOK o)->(ents i off l).Pairwise fun a b=>a.tr<b.tr
 | [],_,_,_=>List.Pairwise.nil
 |o::l,i,off,h=>by
  refine List.pairwise_cons.2 ⟨fun e he=>?_,ents_tr l _ _ fun x hx=>h x (by simp[hx])⟩
  have h1:=(ents_i l (i+1) _ e he).1
  have h2:o.kind<=23:=by have:=(h o (by simp)).kind;unfold OpKind at this;omega
  unfold EntM.tr
  dsimp only
  omega
theorem entIn_tr {kb:ByteArray}{l:List OpM}(hl: ∀o∈l,OpOK o):((entIn kb l).map eKey).Pairwise fun a b=>a.tr<b.tr:=by
 refine List.pairwise_map.2 (((ents_tr l 0 12 hl).sublist List.filter_sublist).imp fun {a b} h=>?_)
 show(a.tr:Int)<(b.tr:Int)
 omega
theorem eKey_props {kb:ByteArray}{l:List OpM}(hl: ∀o∈l,OpOK o)(hn:l.length<=512): ∀m∈(entIn kb l).map eKey,(0<=m.tr/\m.tr<512*256/\(m.tr%256=19\/m.tr%256=20\/m.tr%256=21))/\m.suf.size<2^40/\m.val.size<2^40:=by
 intro m hm
 obtain⟨e,he,rfl⟩:=List.mem_map.1 hm
 have ho:=entIn_op hl e he
 obtain⟨h1,h2⟩:=List.mem_filter.1 he
 have hk:=(of_decide_eq_true h2).1
 have hi:=(ents_i l 0 12 e h1).2
 have hs:=ho.suf
 have hv:=ho.val
 refine⟨?_,?_,?_⟩
 ·show 0<=(((e.i*256+e.op.kind:Nat)):Int)/\(((e.i*256+e.op.kind:Nat)):Int)<_/\((((e.i*256+e.op.kind:Nat)):Int)%256=19\/(((e.i*256+e.op.kind:Nat)):Int)%256=20\/(((e.i*256+e.op.kind:Nat)):Int)%256=21)
  omega
 ·show(rkSuf e.op.kind e.op.suf).size<_
  unfold rkSuf
  split
  ·decide
  ·omega
 ·show(rkV e.op.kind e.op.val).size<_
  unfold rkV
  split
  ·omega
  ·decide
theorem entIn_len (kb:ByteArray)(l:List OpM):(entIn kb l).length<=l.length:=by
 have:=List.length_filter_le (fun e:EntM=>bsIn kb e.op) (entL l)
 rw[entL_len]at this
 exact this
theorem RngOK.at {l:List OpM}{ss:List SpanM}(h:RngOK l ss)(y:ByteArray):(keysOf ss y).Perm ((entIn y l).map eKey):=by
 have:=h.ks y
 rwa[covK_ent]at this
theorem RngOK.key {l:List OpM}{ss:List SpanM}(h:RngOK l ss): ∀s∈ss,s.keys.Perm ((entIn s.lo l).map eKey):=by
 intro s hs
 obtain⟨j,hj,e⟩:=List.getElem_of_mem hs
 have hj':ss[j]? =some s:=by rw[List.getElem?_eq_getElem hj,e]
 have h2:covs ss s.lo=some s:=covs_at h.ok hj' (by rw[bcmp_refl];exact Int.le_refl _) (h.ok.ne j s hj')
 have h3:=h.at s.lo
 unfold keysOf at h3
 rw[h2]at h3
 exact h3
end Go.Proofs.YtpkoddfamelnhaaGreatDoor
