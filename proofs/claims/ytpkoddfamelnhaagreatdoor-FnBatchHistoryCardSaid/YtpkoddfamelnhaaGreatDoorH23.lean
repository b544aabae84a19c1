/- Part 23 of the proof of fnBatchHistory_card. Conditions: none. -/
import Derived.Test.YtpkoddfamelnhaaGreatDoorH21
set_option linter.unusedVariables false
set_option linter.unusedSimpArgs false
namespace Go.Tr
theorem SameI.perm {α:Type}{n:Nat}{d d':Nat->α}(h:SameI 0 n d d'):((List.range n).map d').Perm ((List.range n).map d):=by
 obtain⟨σ,τ,h1,h2,h3,h4,h5⟩:=h
 have e:(List.range n).map d'=((List.range n).map σ).map d:=by
  rw[List.map_map]
  exact List.map_congr_left fun j _=>h5 j
 rw[e]
 refine List.Perm.map d ?_
 refine(List.perm_ext_iff_of_nodup ?_ List.nodup_range).2 fun x=>?_
 ·show List.Pairwise _ _
  rw[List.pairwise_map]
  refine(List.nodup_range (n:=n)).imp fun {a b} hab e=>hab ?_
  have:=congrArg τ e
  rwa[h2,h2]at this
 ·simp only[List.mem_map,List.mem_range]
  constructor
  ·rintro⟨j,hj,rfl⟩;exact(h3 j (Nat.zero_le _) hj).2
  ·intro hx
   refine⟨τ x,?_,h1 x⟩
   rcases Nat.lt_or_ge (τ x) n with h|h
   ·exact h
   ·have:=h4 (τ x) (.inr h);rw[h1]at this;omega
theorem range_getD {α:Type}(d0:α): ∀(l:List α),(List.range l.length).map (fun j=>l.getD j d0)=l:=by
 intro l
 refine List.ext_getElem (by simp) fun i h1 h2=>?_
 simp only[List.getElem_map,List.getElem_range,List.getD_eq_getElem?_getD]
 rw[List.getElem?_eq_getElem h2];rfl
theorem rowSt {w}{a:Addr}{k n j i:Nat}{f:Nat->List Value}{L}{v x:Value}{K:WP}(h:Sat w (Rws a k n f::L))(hj:j<n)(e:(f j)[i]? =some v)(h1:x.oneCell'=true)
  (c: ∀w',Sat w' (Rws a k n (upd f j ((f j).set i x))::L)->K w'):St ((a.add (j*k)).add i) x K w:=by
 have h2:=h.fam_out (i:=j) hj
 have hat:=at_arr (p:=a.add (j*k)) e
 refine⟨h1,⟨_,(h2.get hat).1⟩,(h2.get hat).2,c _ ?_⟩
 have h3:=(h2.set hat x).fam_in hj
 unfold Rws
 rw[Fam.congr (d:=fun i'=>Arr (a.add (i'*k)) (upd f j ((f j).set i x) i'))]at h3
 ·exact h3
 ·intro i' _
  by_cases e:i'=j
  ·subst e;rw[upd_same,upd_same]
  ·rw[upd_other e,upd_other e]
end Go.Tr
namespace Go.Proofs.YtpkoddfamelnhaaGreatDoor
open Go Go.Tr
set_option maxRecDepth 100000
def keysOf (l:List SpanM)(y:ByteArray):List KeyM:=match covs l y with|some s=>s.keys|none=>[]
def covK (ss:List SpanM)(y:ByteArray):List KeyM:=(ss.filter fun s=>decide (bcmp s.lo y<=0)&&decide (bcmp y s.hi<0)).flatMap (·.keys)
theorem covK_app (a b:List SpanM)(y:ByteArray):covK (a++b) y=covK a y++covK b y:=by unfold covK;rw[List.filter_append,List.flatMap_append]
theorem SpansOK.app {a b:List SpanM}{t:ByteArray}(ha:SpansOK a)(hb:SpansOK b)(h1: ∀f∈a,bcmp f.hi t<=0)(h2: ∀f∈b,bcmp t f.lo<=0):SpansOK (a++b):=by
 refine⟨fun j s e=>?_,fun i j x y hij ex ey=>?_,fun s hs=>?_⟩
 ·rcases List.mem_append.1 (List.mem_of_getElem? e)with h|h
  ·obtain⟨i,hi⟩:=List.getElem?_of_mem h;exact ha.ne i s hi
  ·obtain⟨i,hi⟩:=List.getElem?_of_mem h;exact hb.ne i s hi
 ·by_cases hj:j<a.length
  ·rw[List.getElem?_append_left hj]at ey
   rw[List.getElem?_append_left om]at ex
   exact ha.so i j x y hij ex ey
  ·rw[List.getElem?_append_right om]at ey
   by_cases hi:i<a.length
   ·rw[List.getElem?_append_left hi]at ex
    exact bcmp_trans (h1 x (List.mem_of_getElem? ex)) (h2 y (List.mem_of_getElem? ey))
   ·rw[List.getElem?_append_right om]at ex
    exact hb.so _ _ x y (show i-a.length<j-a.length by omega) ex ey
 ·rcases List.mem_append.1 hs with h|h
  ·exact ha.sz s h
  ·exact hb.sz s h
theorem SpansOK.nil :SpansOK []:=⟨fun j s e=>by simp at e,fun i j x y _ e=>by simp at e,fun s hs=>by simp at hs⟩
theorem SpansOK.one {s:SpanM}(h:bcmp s.lo s.hi<0)(hz:s.lo.size<2^28/\s.hi.size<2^28):SpansOK [s]:=by
 refine⟨fun j x e=>?_,fun i j x y hij ex ey=>?_,fun x hx=>?_⟩
 ·have:=List.mem_of_getElem? e
  simp only[List.mem_singleton]at this
  rw[this];exact h
 ·have h2:=(List.getElem?_eq_some_iff.1 ey).1
  simp only[List.length_singleton]at h2
  omega
 ·simp only[List.mem_singleton]at hx
  rw[hx];exact hz
theorem covs_below {l:List SpanM}{y:ByteArray}(h: ∀f∈l,bcmp y f.lo<0):covs l y=none:=covs_none fun j s e g=>absurd g.1 (not_le_b.2 (h s (List.mem_of_getElem? e)))
theorem covs_above {l:List SpanM}{y:ByteArray}(h: ∀f∈l,bcmp f.hi y<=0):covs l y=none:=covs_none fun j s e g=>absurd g.2 (not_lt_b.2 (h s (List.mem_of_getElem? e)))
theorem covs_app (a b:List SpanM)(y:ByteArray):covs (a++b) y=(covs a y).or (covs b y):=by unfold covs;rw[List.find?_append]
theorem keysOf_lt {a b:List SpanM}{t y:ByteArray}(h2: ∀f∈b,bcmp t f.lo<=0)(hy:bcmp y t<0):keysOf (a++b) y=keysOf a y:=by
 unfold keysOf
 rw[covs_app,covs_below (l:=b) fun f hf=>bcmp_lt_le hy (h2 f hf),Option.or_none]
theorem keysOf_ge {a b:List SpanM}{t y:ByteArray}(h1: ∀f∈a,bcmp f.hi t<=0)(hy:bcmp t y<=0):keysOf (a++b) y=keysOf b y:=by
 unfold keysOf
 rw[covs_app,covs_above (l:=a) fun f hf=>bcmp_trans (h1 f hf) hy,Option.none_or]
theorem keysOf_one {s:SpanM}{y:ByteArray}(h1:bcmp s.lo y<=0)(h2:bcmp y s.hi<0):keysOf [s] y=s.keys:=by
 unfold keysOf covs
 simp[h1,h2]
structure Flushed (x:ByteArray)(ps fl:List SpanM)(t:ByteArray):Prop where
 ok:SpansOK fl
 lo: ∀f∈fl,bcmp x f.lo<=0
 hi: ∀f∈fl,bcmp f.hi t<=0
 ks: ∀y,bcmp x y<=0->(keysOf fl y).Perm ((ps.filter fun p=>decide (bcmp y p.hi<0)).flatMap (·.keys))
theorem m328Len :MethAt Tryz.prog 328 "Len" 300:=by intro v w;kernel_rfl
theorem m328Less :MethAt Tryz.prog 328 "Less" 301:=by intro v w;kernel_rfl
theorem m328Swap :MethAt Tryz.prog 328 "Swap" 302:=by intro v w;kernel_rfl
def spRows (D:Hp)(a:Addr)(n:Nat)(d:Nat->SpC×SpanM):Chunk:=fun g=>(∀j,j<n->SpRel D (d j).1 (d j).2)/\Rws a 4 n (fun j=>spc (d j).1) g
theorem spOpen {D}{a:Addr}{n:Nat}{d:Nat->SpC×SpanM}{L w}(h:Sat w (spRows D a n d::L)):(∀j,j<n->SpRel D (d j).1 (d j).2)/\Sat w (Rws a 4 n (fun j=>spc (d j).1)::L):=by
 obtain⟨g,⟨h1,hc⟩,hg⟩:=h
 exact⟨h1,g,hc,hg⟩
theorem spShut {D}{a:Addr}{n:Nat}{d:Nat->SpC×SpanM}{L w}(h1: ∀j,j<n->SpRel D (d j).1 (d j).2)(h:Sat w (Rws a 4 n (fun j=>spc (d j).1)::L)):Sat w (spRows D a n d::L):=h.cons fun _ hc=>⟨h1,hc⟩
def endI (D : Hp) (v a : Addr) (s : Sl) (ha : 0 < s.n -> s.a = some a) (hn : s.n < 2^60) : SortI (SpC × SpanM) where
 v:=.mk 328 (.pointer (some v))
 n:=s.n
 lt:=fun x y=>decide (bcmp x.2.hi y.2.hi<0)
 St:=fun d=>[spRows D a s.n d,Arr v [cmpV,.slice s.a s.n s.c],Own D]
 small:=hn
 less:=fun d i j R w K hs hi hi' hj hj' k=>by
  refine CallI_run m328Less (call301 ?_)
  unfold F301
  have hs':Sat w (spRows D a s.n d::Arr v [cmpV,.slice s.a s.n s.c]::Own D::R):=hs
  obtain⟨hb,h⟩:=spOpen hs'
  have r1:=rowCell (h.near (w':=w.drew)) (j:=i.toNat) (i:=1) om rfl
  have r2:=rowCell (h.near (w':=w.drew)) (j:=j.toNat) (i:=1) om rfl
  have ea:s.a=some a:=ha om
  refine⟨_,rfl,Ld1 h ⟨_,rfl,Ld1 h ⟨⟨hi,hi'⟩,_,ea,LdC r1 ⟨_,rfl,Ld1 h ⟨⟨hj,hj'⟩,_,ea,LdC r2 ?_⟩⟩⟩⟩⟩
  refine callCmp (a:=(d i.toNat).1.hi) (b:=(d j.toNat).1.hi) (h.near.rdB .k2 (hb i.toNat om).2.1.1) (h.near.rdB .k2 (hb j.toNat om).2.1.1) ?_
  exact k _ hs.near
 swap:=fun d i j R w K hs hi hi' hj hj' k=>by
  refine CallI_run m328Swap (call302 ?_)
  unfold F302
  have hs':Sat w (spRows D a s.n d::Arr v [cmpV,.slice s.a s.n s.c]::Own D::R):=hs
  obtain⟨hb,h⟩:=spOpen hs'
  have r1:RdL w.drew (a.add (i.toNat*4)) (spc (d i.toNat).1):=rowRd (f:=fun j=>spc (d j).1) h.near om
  have r2:RdL w.drew (a.add (j.toNat*4)) (spc (d j.toNat).1):=rowRd (f:=fun j=>spc (d j).1) h.near om
  unfold spc at r1 r2
  have ea:s.a=some a:=ha om
  refine⟨_,rfl,Ld1 h ⟨_,rfl,Ld1 h ⟨_,rfl,Ld1 h ⟨⟨hj,hj'⟩,_,ea,LdR r2 ⟨_,rfl,Ld1 h ⟨⟨hi,hi'⟩,_,ea,LdR r1 ⟨⟨hi,hi'⟩,_,ea,?_⟩⟩⟩⟩⟩⟩⟩
  refine rowSet (k:=4) (j:=i.toNat) (h.near (w':=w.drew)) om rfl rfl (spc_one (d j.toNat).1) fun w h=>⟨⟨hj,hj'⟩,_,ea,?_⟩
  refine rowSet (k:=4) (j:=j.toNat) h om ?_ rfl (spc_one (d i.toNat).1) fun w h=>k w ?_
  ·unfold upd;split<;>rfl
  ·rw[Rws.congr (g:=fun x=>spc (swp d i.toNat j.toNat x).1)]at h
   ·refine spShut (fun q hq=>?_) h
    unfold swp upd
    by_cases e1:q=j.toNat
    ·rw[if_pos e1];exact hb _ om
    ·rw[if_neg e1]
     by_cases e2:q=i.toNat
     ·rw[if_pos e2];exact hb _ om
     ·rw[if_neg e2];exact hb _ hq
   ·intro x _
    unfold swp upd
    by_cases e1:x=j.toNat
    ·rw[if_pos e1,if_pos e1];rfl
    ·rw[if_neg e1,if_neg e1]
     by_cases e2:x=i.toNat
     ·rw[if_pos e2,if_pos e2];rfl
     ·rw[if_neg e2,if_neg e2]
theorem end_len {D}{v a:Addr}{s:Sl}{ha:0<s.n->s.a=some a}{hn:s.n<2^60}{d:Nat->SpC×SpanM}{R}(w:World)(K:Int->WP)(hs:Sat w ((endI D v a s ha hn).St d++R))(k: ∀w',Sat w' ((endI D v a s ha hn).St d++R)->K s.n w'):
  CallI Tryz.prog (endI D v a s ha hn).v.enc "Len" [] [.one (.int .i64)] K w:=by
 refine CallI_run m328Len (call300 ?_)
 unfold F300
 have h:Sat w (spRows D a s.n d::Arr v [cmpV,.slice s.a s.n s.c]::Own D::R):=hs
 exact⟨_,rfl,Ld1 h (k _ hs)⟩
theorem endSWO {D}{v a:Addr}{s:Sl}{ha:0<s.n->s.a=some a}{hn:s.n<2^60}:SWO (endI D v a s ha hn).lt:=by
 refine⟨fun x y h=>?_,fun x y z h k=>?_⟩
 ·simp only[endI,decide_eq_true_eq,decide_eq_false_iff_not]at*
  have:=bcmp_anti x.2.hi y.2.hi;omega
 ·simp only[endI,decide_eq_false_iff_not]at*
  exact not_lt_b.2 (bcmp_trans (not_lt_b.1 k) (not_lt_b.1 h))
structure EmitI where
 em:FV
 C:Hp->List SpanM->Chunk
 mono: ∀{D D':Hp} {l:List SpanM} {g:Hp},D.le D'->C D l g->C D' l g
 run: ∀{D:Hp} {l:List SpanM} {x:SpC} {s:SpanM} {R:List Chunk} {w:World} {K:Unit->WP},SpRel D x s->s.keys.length<2^32->l.length<2^32->Sat w (Own D::C D l::R)->
  (∀w',Sat w' (Own D::C D (l++[s])::R)->K () w')->CallV Tryz.prog em.enc [.agg #[.slice x.lo.a x.lo.n x.lo.c,.slice x.hi.a x.hi.n x.hi.c,.slice x.ks.a x.ks.n x.ks.c,.int .i8 (0:Int)]] [] K w
noncomputable def kmD (D:Hp)(k:KC):KeyM:=⟨k.1,sbD D k,vbD D k⟩
theorem KRel.kmD {D}: ∀{a:List KC} {b:List KeyM},KRel D a b->b=a.map (kmD D)
 | [],[],_=>rfl
 | [],_::_,h=>h.elim
 |_::_,[],h=>h.elim
 |x::a,m::b,⟨h1,h2⟩=>by
  rw[List.map_cons,<-KRel.kmD h2]
  congr 1
  unfold Go.Proofs.YtpkoddfamelnhaaGreatDoor.kmD
  rw[sbD_eq h1.2.1,vbD_eq h1.2.2,h1.1]
theorem KRel.of_kmD {D}: ∀{a:List KC},(∀k∈a,∃s v,BytesAt D k.2.1 s/\BytesAt D k.2.2 v)->KRel D a (a.map (Go.Proofs.YtpkoddfamelnhaaGreatDoor.kmD D))
 | [],_=>trivial
 |k::a,h=>by
  obtain⟨s,v,h1,h2⟩:=h k (by simp)
  refine⟨⟨rfl,?_,?_⟩,KRel.of_kmD fun x hx=>h x (List.mem_cons_of_mem _ hx)⟩
  ·show BytesAt D k.2.1 (sbD D k);rw[sbD_eq h1];exact h1
  ·show BytesAt D k.2.2 (vbD D k);rw[vbD_eq h2];exact h2
theorem TrSorted.perm {acc out:List KC}(h:TrSorted acc out):out.Perm acc:=by
 obtain⟨d',h1,h2,rfl⟩:=h
 have:=h1.perm
 rwa[range_getD kd acc]at this
theorem take_len {α β:Type}(f:α->List β)(l:List α)(i:Nat):((l.take i).flatMap f).length<=(l.flatMap f).length:=by
 have:l.flatMap f=(l.take i).flatMap f++(l.drop i).flatMap f:=by rw[<-List.flatMap_append,List.take_append_drop]
 rw[this,List.length_append];omega
theorem drop_len {α β:Type}(f:α->List β)(l:List α)(i:Nat):((l.drop i).flatMap f).length<=(l.flatMap f).length:=by
 have:l.flatMap f=(l.take i).flatMap f++(l.drop i).flatMap f:=by rw[<-List.flatMap_append,List.take_append_drop]
 rw[this,List.length_append];omega
theorem sortFlush {v:Addr}{fb:Sl}{acc:List KC}{R w}{K:Unit->WP}(hn:fb.n=acc.length)(hlen:acc.length<2^40)(h:Sat w (Buf 3 fb (acc.flatMap kcells)::Arr v [.slice fb.a fb.n fb.c]::R))
  (k: ∀out w',TrSorted acc out->Sat w' (Buf 3 fb (out.flatMap kcells)::Arr v [.slice fb.a fb.n fb.c]::R)->K () w'):CallF Tryz.prog 88 [(.iface 329 (.pointer (some v)))] [] K w:=by
 have h1:=h
 rw[<-flat_all kcells kd acc,<-hn]at h1
 have hnone:fb.a=none->fb.n=0/\fb.c=0:=fun hh=>by
  obtain⟨g,hg,_⟩:=h1
  unfold Buf at hg
  rw[hh]at hg
  exact⟨hg.1,hg.2.1⟩
 obtain⟨hnc,hka,h2⟩:=bufOpen (k:=3) (p:=v) (fun j _=>rfl) (Nat.succ_pos _) h1
 have hn60:fb.n<2^60:=by omega
 have h4:Sat w ((keysI v (fb.a.getD v) fb hka hn60).St (fun j=>acc.getD j kd)++(spareO 3 fb::R)):=h2.t2.t1
 refine call88 (data1:=.mk 329 (.pointer (some v))) (spec88 (I:=keysI v (fb.a.getD v) fb hka hn60) keysSWO (fun w K hs k=>keys_len w K hs k) h4 fun d' w hsm hso h=>?_)
 have h5:Sat w (Rws (fb.a.getD v) 3 fb.n (fun j=>kcells (d' j))::Arr v [.slice fb.a fb.n fb.c]::spareO 3 fb::R):=h
 have h6:=bufShut (k:=3) (f:=fun j=>kcells (d' j)) (m:=fb.n) (p:=v) (fun j hj=>rfl) (Nat.le_refl _) hnone (h5.t2.t1)
 have e:flat (fun j=>kcells (d' j)) fb.n=((List.range acc.length).map d').flatMap kcells:=by
  rw[hn]
  have: ∀n,flat (fun j=>kcells (d' j)) n=((List.range n).map d').flatMap kcells:=by
   intro n
   induction n with
   |zero=>rfl
   |succ n ih=>rw[flat,ih,List.range_succ,List.map_append,List.flatMap_append];simp
  exact this _
 rw[e]at h6
 refine k _ w ⟨d',by rw[<-hn];exact hsm,fun i j hij hj=>?_,rfl⟩ h6
 have:=hso i j (Nat.zero_le _) hij (by show j<fb.n;omega)
 simp only[keysI,decide_eq_false_iff_not]at this
 omega
structure FrS where
 fmt:FV
 pend:Sl
 done:Sl
 sbc:FV
 sbuf:Sl
 fb:Sl
 fbc:List Value
 fk:Sl
 fin:Bool
def FL (f:Addr)(E:EmitI)(s:FrS)(D:Hp)(l:List SpanM)(R:List Chunk):List Chunk:=
 Arr f [cmpV,s.fmt.enc,E.em.enc,.slice s.pend.a s.pend.n s.pend.c,.slice s.done.a s.done.n s.done.c]::Arr (f.add 5) [s.sbc.enc,.slice s.sbuf.a s.sbuf.n s.sbuf.c]::Arr (f.add 7) [.slice s.fb.a s.fb.n s.fb.c]::Arr (f.add 8) [.slice s.fk.a s.fk.n s.fk.c]::Arr (f.add 9) [.bool s.fin]::Buf 3 s.fb s.fbc::Own D::E.C D l::R
def spd :SpanM:=⟨.empty,.empty,[]⟩
def xpd :SpC:=⟨⟨none,0,0⟩,⟨none,0,0⟩,⟨none,0,0⟩⟩
structure FlIn (x0 t:ByteArray)(ps:List SpanM):Prop where
 lo: ∀p∈ps,p.lo=x0/\bcmp x0 p.hi<0
 hi: ∀p∈ps,bcmp p.hi t<=0
 sz: ∀p∈ps,p.lo.size<2^28/\p.hi.size<2^28
 nd:((ps.flatMap (·.keys)).map (·.tr)).Nodup
 kn:(ps.flatMap (·.keys)).length<2^30
 n:ps.length<2^30
structure FlMid (x0 t:ByteArray)(qs:List SpanM)(r:Nat)(t0:ByteArray)(fl:List SpanM):Prop where
 ge: ∀(j:Nat) (q:SpanM),r<=j->qs[j]? =some q->bcmp t0 q.hi<0
 lt: ∀(j:Nat) (q:SpanM),j<r->qs[j]? =some q->bcmp q.hi t0<=0
 xt:bcmp x0 t0<=0
 sz:t0.size<2^28
 ok:SpansOK fl
 lo: ∀f∈fl,bcmp x0 f.lo<=0
 hi: ∀f∈fl,bcmp f.hi t0<=0/\bcmp f.hi t<=0
 ks: ∀y,bcmp x0 y<=0->bcmp y t0<0->(keysOf fl y).Perm ((qs.filter fun p=>decide (bcmp y p.hi<0)).flatMap (·.keys))
 n:fl.length<=r
theorem filter_lt {qs:List SpanM}{y:ByteArray}(h: ∀(j:Nat) (q:SpanM),qs[j]? =some q->bcmp q.hi y<=0):(qs.filter fun p=>decide (bcmp y p.hi<0))=[]:=by
 rw[List.filter_eq_nil_iff]
 intro q hq
 obtain⟨j,hj⟩:=List.getElem?_of_mem hq
 have:=not_lt_b.2 (h j q hj)
 simpa using this
theorem filter_mid {qs:List SpanM}{y:ByteArray}{r:Nat}(h1: ∀(j:Nat) (q:SpanM),j<r->qs[j]? =some q->bcmp q.hi y<=0)(h2: ∀(j:Nat) (q:SpanM),r<=j->qs[j]? =some q->bcmp y q.hi<0):(qs.filter fun p=>decide (bcmp y p.hi<0))=qs.drop r:=by
 have e:qs.filter (fun p=>decide (bcmp y p.hi<0))=(qs.take r).filter (fun p=>decide (bcmp y p.hi<0))++(qs.drop r).filter (fun p=>decide (bcmp y p.hi<0)):=by rw[<-List.filter_append,List.take_append_drop]
 rw[e,filter_lt,List.nil_append,List.filter_eq_self.2]
 ·intro q hq
  obtain⟨j,hj⟩:=List.getElem?_of_mem hq
  rw[List.getElem?_drop]at hj
  simpa using h2 (r+j) q om hj
 ·intro j q hq
  rw[List.getElem?_take]at hq
  split at hq
  ·exact h1 j q om hq
  ·cases hq
theorem FlMid.next {x0 t t0:ByteArray}{qs fl:List SpanM}{r rem:Nat}{e:ByteArray}{q:SpanM}{ks:List KeyM}(h:FlMid x0 t qs r t0 fl)(hso: ∀(i j:Nat) (x y:SpanM),i<j->qs[i]? =some x->qs[j]? =some y->bcmp x.hi y.hi<=0)
  (hq:qs[r]? =some q) (he:q.hi=e) (het:bcmp e t<=0) (hez:e.size<2^28) (hrem0:1<=rem) (hrem: ∀(i:Nat) (x:SpanM),qs[r+i]? =some x->(x.hi=e↔i<rem)) (hks:ks.Perm ((qs.drop r).flatMap (·.keys))):FlMid x0 t qs (r+rem) e (fl++[⟨t0,e,ks⟩]):=by
 subst he
 have hlt:=h.ge r q (Nat.le_refl _) hq
 refine⟨fun j x hj hx=>?_,fun j x hj hx=>?_,bcmp_trans h.xt (lt_le_b hlt),hez,?_,fun f hf=>?_,fun f hf=>?_,fun y hy1 hy2=>?_,?_⟩
 ·have h1:=hrem (j-r) x (by rw[show r+(j-r)=j by omega];exact hx)
  have h2:=hso r j q x om hq hx
  refine Int.not_le.1 fun hge=>?_
  have:=bcmp_anti q.hi x.hi
  exact absurd (h1.1 (bcmp_zero om).symm) om
 ·by_cases hjr:j<r
  ·exact bcmp_trans (h.lt j x hjr hx) (lt_le_b hlt)
  ·have h1:=hrem (j-r) x (by rw[show r+(j-r)=j by omega];exact hx)
   rw[h1.2 om];exact le_refl_b _
 ·exact h.ok.app (t:=t0) (SpansOK.one hlt ⟨h.sz,hez⟩) (fun f hf=>(h.hi f hf).1) (fun f hf=>by simp only[List.mem_singleton]at hf;rw[hf];exact le_refl_b _)
 ·rcases List.mem_append.1 hf with hf|hf
  ·exact h.lo f hf
  ·simp only[List.mem_singleton]at hf;rw[hf];exact h.xt
 ·rcases List.mem_append.1 hf with hf|hf
  ·exact⟨bcmp_trans (h.hi f hf).1 (lt_le_b hlt),(h.hi f hf).2⟩
  ·simp only[List.mem_singleton]at hf;rw[hf];exact⟨le_refl_b _,het⟩
 ·by_cases hy:bcmp y t0<0
  ·rw[keysOf_lt (t:=t0) (fun f hf=>by simp only[List.mem_singleton]at hf;rw[hf];exact le_refl_b _) hy]
   exact h.ks y hy1 hy
  ·have hy':=not_lt_b.1 hy
   have e1:keysOf (fl++[⟨t0,q.hi,ks⟩]) y=ks:=(keysOf_ge (t:=t0) (fun f hf=>(h.hi f hf).1) hy').trans (keysOf_one hy' hy2)
   have e2:(qs.filter fun p=>decide (bcmp y p.hi<0))=qs.drop r:=by
    refine filter_mid (r:=r) ?_ ?_
    ·intro j x hj hx;exact bcmp_trans (h.lt j x hj hx) hy'
    ·intro j x hj hx
     by_cases e:j=r
     ·subst e;rw[hq]at hx;injection hx with hx;rw[<-hx];exact hy2
     ·exact bcmp_lt_le hy2 (hso r j q x om hq hx)
   rw[e1,e2]
   exact hks
 ·rw[List.length_append];have:=h.n;simp only[List.length_singleton];omega
theorem FlMid.done {x0 t t0:ByteArray}{ps qs fl:List SpanM}{r:Nat}(h:FlMid x0 t qs r t0 fl)(hr:qs.length<=r)(hp:qs.Perm ps):Flushed x0 ps fl t:=by
 refine⟨h.ok,h.lo,fun f hf=>(h.hi f hf).2,fun y hy=>?_⟩
 have hpp:((qs.filter fun p=>decide (bcmp y p.hi<0)).flatMap (·.keys)).Perm ((ps.filter fun p=>decide (bcmp y p.hi<0)).flatMap (·.keys)):=(hp.filter _).flatMap_right _
 refine List.Perm.trans ?_ hpp
 by_cases hy2:bcmp y t0<0
 ·exact h.ks y hy hy2
 ·have hy':=not_lt_b.1 hy2
  rw[filter_lt fun j q hq=>bcmp_trans (h.lt j q (by have:=(List.getElem?_eq_some_iff.1 hq).1;omega) hq) hy']
  unfold keysOf
  rw[covs_above fun f hf=>bcmp_trans (h.hi f hf).1 hy']
  exact List.Perm.refl _
theorem addm (a:Addr)(r i:Nat):(a.add (r*4)).add (i*4)=a.add ((r+i)*4):=by rw[Addr.add_add,<-Nat.add_mul]
def RowsOK (D:Hp)(qs:List SpanM)(r:Nat)(t0:ByteArray)(X:Nat->SpC):Prop:= ∀(j:Nat) (q:SpanM),r<=j->qs[j]? =some q->SpRel D (X j) ⟨t0,q.hi,q.keys⟩
theorem flushKeys {E:EmitI}{f a:Addr}{s:FrS}{D}{l:List SpanM}{qs:List SpanM}{X:Nat->SpC}{r n:Nat}{q:SpanM}{t0:ByteArray}{R}{w:World}{Z:Int×Int->WP}(hn:qs.length=n)(hn30:n<2^30)(hrn:r<n)(hX:RowsOK D qs r t0 X)(hq:qs[r]? =some q)
  (hso: ∀(i j:Nat) (x y:SpanM),i<j->qs[i]? =some x->qs[j]? =some y->bcmp x.hi y.hi<=0) (hkn:(qs.flatMap (·.keys)).length<2^30) (h:Sat w (Rws a 4 n (fun j=>spc (X j))::FL f E s D l R))
  (k: ∀(rem:Nat) (acc:List KC) (fb:Sl) w',1<=rem->rem<=n-r->(∀(i:Nat) (x:SpanM),qs[r+i]? =some x->(x.hi=q.hi↔i<rem))->KRel D acc ((qs.drop r).flatMap (·.keys))->fb.n=acc.length->acc.length<2^30->Sat w' (Rws a 4 n (fun j=>spc (X j))::FL f E {s with fb:=fb,fbc:=acc.flatMap kcells} D l R)->Z ((rem:Int),((n-r:Nat):Int)) w'):
  (0<=(0:Int)/\(0:Int)<((n-r:Nat):Int))/\(∃e18,some (a.add (r*4))=some e18/\Ld (.one .sl) ((e18.add (0*4)).add 2) (fun(Keys19:Sl) w=>AppP si152 ⟨s.fb.a,0,s.fb.c⟩ Keys19 (fun(a20:Sl) w=> ∃p21,some f=some p21/\St (p21.add 7) (.slice a20.a a20.n a20.c) (fun w=>Tr.Loop (fun(next23:(Int×Int)->WP) (s22:Int×Int) w=>(if(decide (s22.2<((n-r:Nat):Int)))=true then Tr.Join (fun(s24:Int) w=> ∃p26,some f=some p26/\Ld (.one .sl) (p26.add 7) (fun(flushBuf27:Sl) w=>(0<=s22.2/\s22.2<((n-r:Nat):Int))/\(∃e28,some (a.add (r*4))=some e28/\Ld (.one .sl) ((e28.add (s22.2.toNat*4)).add 2) (fun(Keys29:Sl) w=>AppP si152 flushBuf27 Keys29 (fun(a30:Sl) w=> ∃p31,some f=some p31/\St (p31.add 7) (.slice a30.a a30.n a30.c) (fun w=>next23 (s24,(IntKind.i64.wrap (s22.2+(1:Int)))) w) w) w) w)) w.drew) (fun J_25=> ∃p32,some f=some p32/\Ld (.one .fn) (p32.add 0) (fun(Cmp33:FV) w=>(0<=s22.2/\s22.2<((n-r:Nat):Int))/\(∃e34,some (a.add (r*4))=some e34/\Ld (.one .sl) ((e34.add (s22.2.toNat*4)).add 1) (fun(End35:Sl) w=>CallV Tryz.prog (FV.enc Cmp33) [.slice (X r).hi.a (X r).hi.n (X r).hi.c,.slice End35.a End35.n End35.c] [(.one (.int .i64))] (fun(r36:Int) w=>(if(r36==(0:Int))=true then J_25 (IntKind.i64.wrap (s22.1+(1:Int))) w else J_25 s22.1 w)) w) w)) w.drew)else Z s22 w)) ((1:Int),(1:Int)) w) w) w) w):=by
 have hqr:q.keys.length<=(qs.flatMap (·.keys)).length:=by
  have h1:=drop_len (·.keys) qs r
  have h2:=take_len (·.keys) (qs.drop r) 1
  have e:(qs.drop r).take 1=[q]:=by rw[List.take_one,List.head?_drop,hq];rfl
  rw[e]at h2
  simp only[List.flatMap_cons,List.flatMap_nil,List.append_nil]at h2
  omega
 have h':=h
 have hrow: ∀{w s},Sat w (Rws a 4 n (fun j=>spc (X j))::FL f E s D l R)-> ∀(i m:Nat) (v:Value),r+i<n->(spc (X (r+i)))[m]? =some v->w.cell? (((a.add (r*4)).add (i*4)).add m)=some v:=fun h i m v hi e=>by
  rw[addm];exact rowCell (f:=fun j=>spc (X j)) h hi e
 unfold FL at h
 refine⟨⟨by omega,by omega⟩,_,rfl,LdC (hrow h' 0 2 _ om rfl) ?_⟩
 obtain⟨-,-,kc,hk1,hk2⟩:=hX r q (Nat.le_refl _) hq
 have hkl:kc.length=q.keys.length:=hk2.len
 have hkn':=hk1.1
 have hrd:RdS w (X r).ks.a ((X r).ks.n*3) (kc.flatMap kcells):=rdKC h .k7 hk1
 rw[Nat.add_zero]
 refine AppP_run (s:=si152) (w:=w) (d:=⟨s.fb.a,0,s.fb.c⟩) (x:=(X r).ks) (old:=[]) (new:=kc.flatMap kcells) (bufTrunc (h.mv 6)) hrd (by show _=(X r).ks.n*3;rw[kcells_flat_len,hkn']) (fun v hv=>?_) (by show(2*(0+(X r).ks.n)+1024)*56<=_;omega) (by dsimp only;omega) fun fb1 w er ea h=>?_
 ·simp only[List.mem_flatMap]at hv
  obtain⟨y,_,hy⟩:=hv
  exact kcells_one y v hy
 dsimp only at er
 refine⟨_,rfl,St1 h rfl fun w h=>?_⟩
 have h2:Sat w (Rws a 4 n (fun j=>spc (X j))::FL f E {s with fb:=fb1,fbc:=kc.flatMap kcells} D l R):=h.pt 6
 clear h h' hrd
 have hd1:(qs.drop r).take 1=[q]:=by rw[List.take_one,List.head?_drop,hq];rfl
 refine⟨fun m (z:Int×Int) w=> ∃(i rem:Nat) (fb:Sl) (acc:List KC),z=((rem:Int),(i:Int))/\1<=i/\i<=n-r/\m=n-r-i/\1<=rem/\rem<=i/\(∀(i':Nat) (x:SpanM),i'<i->qs[r+i']? =some x->(x.hi=q.hi↔i'<rem))/\KRel D acc (((qs.drop r).take i).flatMap (·.keys))/\fb.n=acc.length/\
   Sat w (Rws a 4 n (fun j=>spc (X j))::FL f E {s with fb:=fb,fbc:=acc.flatMap kcells} D l R),⟨_,1,1,fb1,kc,rfl,Nat.le_refl _,by omega,rfl,Nat.le_refl _,Nat.le_refl _,fun i' x hi hx=>?_,?_,by omega,h2⟩,?_⟩
 ·have:i'=0:=by omega
  subst this
  rw[Nat.add_zero,hq]at hx
  injection hx with hx
  rw[hx]
  simp
 ·rw[hd1];simpa using hk2
 clear h2
 rintro m z w ⟨i,rem,fb,acc,rfl,hi1,hin,hm,hr1,hri,heq,hrel,hfb,h'⟩
 have hal:acc.length<2^30:=by
  have h1:=drop_len (·.keys) qs r
  have h2:=take_len (·.keys) (qs.drop r) i
  rw[hrel.len];omega
 dsimp only
 refine ifd (fun hlt=>?_) (fun hge=>?_)
 ·have hir:r+i<n:=by omega
  have hx:qs[r+i]? =some qs[r+i]:=List.getElem?_eq_getElem om
  have hxk:=hX (r+i) _ om hx
  generalize qs[r+i]=x at hx hxk
  have ew:IntKind.i64.wrap ((i:Int)+1)=((i+1:Nat):Int):=w1 om
  have ew2:IntKind.i64.wrap ((rem:Int)+1)=((rem+1:Nat):Int):=w1 om
  rw[ew,ew2,Int.toNat_natCast]
  refine⟨fun(z:Int) w=> ∃rem':Nat,z=rem'/\1<=rem'/\rem'<=i+1/\(∀(i':Nat) (x:SpanM),i'<i+1->qs[r+i']? =some x->(x.hi=q.hi↔i'<rem'))/\Sat w (Rws a 4 n (fun j=>spc (X j))::FL f E {s with fb:=fb,fbc:=acc.flatMap kcells} D l R),?_,?_⟩
  ·clear h'
   rintro _ w ⟨rem',rfl,h1,h2,h3,h'⟩
   have h:=h'
   unfold FL at h
   obtain⟨-,-,kc2,hk1,hk2⟩:=hxk
   have hkl2:kc2.length=x.keys.length:=hk2.len
   have hkn2:=hk1.1
   have e1:(qs.drop r).take (i+1)=(qs.drop r).take i++[x]:=by rw[List.take_add_one,List.getElem?_drop,hx];rfl
   have hxl:(acc++kc2).length<2^30:=by
    have h1:=drop_len (·.keys) qs r
    have h2:=take_len (·.keys) (qs.drop r) (i+1)
    rw[e1,List.flatMap_append,List.length_append]at h2
    simp only[List.flatMap_cons,List.flatMap_nil,List.append_nil]at h2
    rw[List.length_append,hrel.len,hkl2];omega
   rw[List.length_append]at hxl
   refine⟨_,rfl,Ld1 h ⟨⟨by omega,hlt⟩,_,rfl,LdC (hrow (h'.near (w':=w.drew)) i 2 _ hir rfl) ?_⟩⟩
   have hrd:RdS w.drew (X (r+i)).ks.a ((X (r+i)).ks.n*3) (kc2.flatMap kcells):=rdKC h.near .k7 hk1
   refine AppP_run (s:=si152) (w:=w) (d:=⟨fb.a,fb.n,fb.c⟩) (x:=(X (r+i)).ks) (old:=acc.flatMap kcells) (new:=kc2.flatMap kcells) (h.mv 6) hrd (by show _=(X (r+i)).ks.n*3;rw[kcells_flat_len,hkn2]) (fun v hv=>?_) (by show(2*(fb.n+(X (r+i)).ks.n)+1024)*56<=_;omega) (by dsimp only;omega) fun fb1 w er ea h=>?_
   ·simp only[List.mem_flatMap]at hv
    obtain⟨y,_,hy⟩:=hv
    exact kcells_one y v hy
   dsimp only at er
   refine⟨_,rfl,St1 h rfl fun w h=>?_⟩
   rw[<-List.flatMap_append]at h
   refine⟨n-r-(i+1),by omega,i+1,rem',fb1,acc++kc2,rfl,by omega,by omega,rfl,h1,h2,h3,?_,by rw[List.length_append];omega,h.pt 6⟩
   rw[e1,List.flatMap_append]
   exact hrel.app (by simpa using hk2)
  ·have h:=h'
   unfold FL at h
   have hq':=hX r q (Nat.le_refl _) hq
   refine⟨_,rfl,Ld1 h ⟨⟨by omega,hlt⟩,_,rfl,LdC (hrow (h'.near (w':=w.drew)) i 1 _ hir rfl) ?_⟩⟩
   refine callCmp (a:=(X r).hi) (b:=(X (r+i)).hi) (h.near.rdB .k7 hq'.2.1.1) (h.near.rdB .k7 hxk.2.1.1) ?_
   refine ife (fun he=>?_) (fun hne=>?_)
   ·have he':q.hi=x.hi:=bcmp_zero he
    have hre:rem=i:=by
     rcases Nat.lt_or_ge rem i with hlt'|hge'
     ·exfalso
      have hy:qs[r+rem]? =some qs[r+rem]:=List.getElem?_eq_getElem om
      generalize qs[r+rem]=y at hy
      have h3:=heq rem y hlt' hy
      have h4:=hso (r+rem) (r+i) y x om hy hx
      have h5:=hso r (r+rem) q y om hq hy
      rw[<-he']at h4
      have:=bcmp_anti q.hi y.hi
      exact absurd (h3.1 (bcmp_zero om).symm) (Nat.lt_irrefl _)
     ·omega
    refine⟨rem+1,rfl,by omega,by omega,fun i' x' hi' hx'=>?_,h'.near⟩
    by_cases e:i'=i
    ·subst e;rw[hx]at hx';injection hx' with hx';rw[<-hx',he'];simp;omega
    ·rw[heq i' x' om hx'];omega
   ·refine⟨rem,rfl,hr1,by omega,fun i' x' hi' hx'=>?_,h'.near⟩
    by_cases e:i'=i
    ·subst e
     rw[hx]at hx';injection hx' with hx'
     rw[<-hx']
     constructor
     ·intro h0;rw[h0,bcmp_refl]at hne;exact(hne rfl).elim
     ·intro h0;omega
    ·exact heq i' x' om hx'
 ·have:i=n-r:=by omega
  subst this
  have e1:(qs.drop r).take (n-r)=qs.drop r:=List.take_of_length_le (by rw[List.length_drop];omega)
  rw[e1]at hrel
  refine k rem acc fb w hr1 hri (fun i' x hx=>?_) hrel hfb hal h'
  have:=(List.getElem?_eq_some_iff.1 hx).1
  exact heq i' x om hx
theorem RowsOK.mono {D D':Hp}(hd:D.le D'){qs:List SpanM}{r:Nat}{t0:ByteArray}{X:Nat->SpC}(h:RowsOK D qs r t0 X):RowsOK D' qs r t0 X:=fun j q hj hq=>(h j q hj hq).mono hd
theorem SpsRel.getD {D}{xs:List SpC}{ps:List SpanM}(h:SpsRel D xs ps){j:Nat}(hj:j<ps.length):SpRel D (xs.getD j xpd) (ps.getD j spd):=by
 have hl:=h.len
 refine h.get j _ _ ?_ ?_
 ·rw[List.getD_eq_getElem?_getD,List.getElem?_eq_getElem om];rfl
 ·rw[List.getD_eq_getElem?_getD,List.getElem?_eq_getElem hj];rfl
set_option maxHeartbeats 2000000 in
theorem spec111 {E:EmitI}{f a:Addr}{ba:Option Addr}{s:FrS}{D:Hp}{l:List SpanM}{xs:List SpC}{ps:List SpanM}{x0 t:ByteArray}{n c:Nat}{R w}{K:Unit->WP}(hps:SpsRel D xs ps)(hn:ps.length=n)(hin:FlIn x0 t ps)(hx0:x0.size<2^28)(hba:0<n->ba=some a)(hnc:n<=c)
  (hl:l.length+n<2^32) (h:Sat w (Rws a 4 n (fun j=>spc (xs.getD j xpd))::FL f E s D l R))
  (k: ∀D' fl g s' w',D.le D'->Flushed x0 ps fl t->fl.length<=n->(∀j,j<n->(g j).length=4)->s'.pend=s.pend->s'.done=s.done->s'.fk=s.fk->s'.fin=s.fin->Sat w' (Rws a 4 n g::FL f E s' D' (l++fl) R)->K () w'):F111 (some f) ⟨ba,n,c⟩ nl K w:=by
 have hn30:n<2^30:=by rw[<-hn];exact hin.n
 unfold F111
 refine⟨fun _ w=>Sat w (Rws a 4 n (fun j=>spc (xs.getD j xpd))::FL f E s D l R),?_,h⟩
 clear h
 intro _ w h
 unfold FL at h
 refine⟨_,rfl,Ld1 h ⟨_,rfl,St1 h rfl fun w h=>⟨_,rfl,St1 h rfl fun w h=>⟨_,rfl,?_⟩⟩⟩⟩
 have hn60:n<2^60:=by omega
 have h1:=((h.mv 7).mv 3).mv 2
 simp only[mv]at h1
 have hs:Sat w ((endI D (f.add 5) a ⟨ba,n,c⟩ hba hn60).St (fun j=>(xs.getD j xpd,ps.getD j spd))++(Arr f [cmpV,s.fmt.enc,E.em.enc,.slice s.pend.a s.pend.n s.pend.c,.slice s.done.a s.done.n s.done.c]::Arr (f.add 7) [.slice s.fb.a s.fb.n s.fb.c]::Arr (f.add 8) [.slice s.fk.a s.fk.n s.fk.c]::Arr (f.add 9) [.bool s.fin]::Buf 3 s.fb s.fbc::E.C D l::R)):=
  spShut (fun j hj=>hps.getD (by have hj':j<n:=hj;omega)) h1
 clear h h1
 refine call88 (data1:=.mk 328 (.pointer (some (f.add 5)))) (spec88 (I:=endI D (f.add 5) a ⟨ba,n,c⟩ hba hn60) endSWO (fun w K hs k=>end_len w K hs k) hs fun d' w hsm hso h=>?_)
 clear hs
 obtain⟨hr0,h3⟩:=spOpen (show Sat w (spRows D a n d'::Arr (f.add 5) [cmpV,.slice ba n c]::Own D::Arr f [cmpV,s.fmt.enc,E.em.enc,.slice s.pend.a s.pend.n s.pend.c,.slice s.done.a s.done.n s.done.c]::Arr (f.add 7) [.slice s.fb.a s.fb.n s.fb.c]::Arr (f.add 8) [.slice s.fk.a s.fk.n s.fk.c]::Arr (f.add 9) [.bool s.fin]::Buf 3 s.fb s.fbc::E.C D l::R)from h)
 clear h
 have h4:Sat w (Rws a 4 n (fun j=>spc (d' j).1)::FL f E {s with sbc:=.mk (.func 45) #[] #[],sbuf:=⟨ba,n,c⟩} D l R):=(((((((((h3.mv 8).mv 3).mv 8).mv 8).mv 8).mv 8).mv 7).mv 8).mv 8)
 clear h3
 obtain⟨qs,X0,hqn,hqp,hX0,hqso,h5⟩: ∃(qs:List SpanM) (X0:Nat->SpC),qs.length=n/\qs.Perm ps/\RowsOK D qs 0 x0 X0/\(∀(i j:Nat) (x y:SpanM),i<j->qs[i]? =some x->qs[j]? =some y->bcmp x.hi y.hi<=0)/\
   Sat w (Rws a 4 n (fun j=>spc (X0 j))::FL f E {s with sbc:=.mk (.func 45) #[] #[],sbuf:=⟨ba,n,c⟩} D l R):=by
  have hperm:((List.range n).map fun j=>(d' j).2).Perm ps:=by
   have h1:=(hsm.perm).map Prod.snd
   rw[List.map_map,List.map_map]at h1
   have e:(List.range n).map (Prod.snd∘fun j=>(xs.getD j xpd,ps.getD j spd))=ps:=by
    have:=range_getD spd ps
    rw[hn]at this
    exact this
   have h2:((List.range n).map (Prod.snd∘d')).Perm ((List.range n).map (Prod.snd∘fun j=>(xs.getD j xpd,ps.getD j spd))):=h1
   rw[e]at h2
   exact h2
  have hget: ∀(j:Nat) (q:SpanM),((List.range n).map fun j=>(d' j).2)[j]? =some q->j<n/\(d' j).2=q:=fun j q hq=>by
   have hj:j<n:=by have:=(List.getElem?_eq_some_iff.1 hq).1;simpa using this
   rw[List.getElem?_map,List.getElem?_range hj]at hq
   exact⟨hj,by simpa using hq⟩
  refine⟨(List.range n).map (fun j=>(d' j).2),fun j=>(d' j).1,by simp,hperm,fun j q _ hq=>?_,fun i j x y hij hx hy=>?_,h4⟩
  ·obtain⟨hj,e⟩:=hget j q hq
   have h1:=hr0 j hj
   have h2:=hin.lo q (hperm.mem_iff.1 (List.mem_of_getElem? hq))
   rw[e,show q=⟨x0,q.hi,q.keys⟩ by rw[<-h2.1]]at h1
   exact h1
  ·obtain⟨hi,rfl⟩:=hget i x hx
   obtain⟨hj,rfl⟩:=hget j y hy
   have h1:=hso i j (Nat.zero_le _) hij hj
   simp only[endI,decide_eq_false_iff_not]at h1
   exact not_lt_b.1 h1
 clear h4 hr0 hso hsm
 have hqin: ∀(j:Nat) (q:SpanM),qs[j]? =some q->q∈ps:=fun j q hq=>hqp.mem_iff.1 (List.mem_of_getElem? hq)
 have hqkn:(qs.flatMap (·.keys)).length<2^30:=by rw[(hqp.flatMap_right (·.keys)).length_eq];exact hin.kn
 have hqnd:((qs.flatMap (·.keys)).map (·.tr)).Nodup:=((hqp.flatMap_right (·.keys)).map (·.tr)).nodup_iff.2 hin.nd
 refine⟨fun m (z:Sl) w=> ∃(r:Nat) (X:Nat->SpC) (D':Hp) (fl:List SpanM) (t0:ByteArray) (s':FrS),m=n-r/\r<=n/\z.n=n-r/\z.c=c-r/\(r<n->z.a=some (a.add (r*4)))/\D.le D'/\RowsOK D' qs r t0 X/\FlMid x0 t qs r t0 fl/\
   s'.pend=s.pend/\s'.done=s.done/\s'.fk=s.fk/\s'.fin=s.fin/\Sat w (Rws a 4 n (fun j=>spc (X j))::FL f E s' D' (l++fl) R),
  ⟨_,0,X0,D,[],x0,{s with sbc:=.mk (.func 45) #[] #[],sbuf:=⟨ba,n,c⟩},rfl,Nat.zero_le _,rfl,rfl,fun h0=>by rw[Nat.zero_mul];exact hba h0,Hp.le_refl _,hX0,?_,rfl,rfl,rfl,rfl,by rw[List.append_nil];exact h5⟩,?_⟩
 ·refine⟨fun j q _ hq=>(hin.lo q (hqin j q hq)).2,fun j q hj=>by omega,le_refl_b x0,hx0,SpansOK.nil,fun f hf=>by simp at hf,fun f hf=>by simp at hf,fun y h1 h2=>absurd h1 (not_le_b.2 h2),Nat.le_refl _⟩
 clear h5
 rintro m ⟨za,zn,zc⟩ w ⟨r,X,D',fl,t0,s',rfl,hrn,e1,e2,hza,hD,hX,hmid,p1,p2,p3,p4,h'⟩
 dsimp only at e1 e2 hza|-
 subst e1 e2
 refine ifd (fun hpos=>?_) (fun hz=>?_)
 rotate_left
 ·exact k D' fl (fun j=>spc (X j)) s' w hD (hmid.done om hqp) (by have:=hmid.n;omega) (fun j _=>rfl) p1 p2 p3 p4 h'
 have hrn':r<n:=by omega
 rw[hza hrn']
 have hq:qs[r]? =some qs[r]:=List.getElem?_eq_getElem om
 generalize qs[r]=q at hq
 have hqp':=hqin r q hq
 have hXr:=hX r q (Nat.le_refl _) hq
 have hrow: ∀{w s D l} {X:Nat->SpC},Sat w (Rws a 4 n (fun j=>spc (X j))::FL f E s D l R)-> ∀(i m:Nat) (v:Value),r+i<n->(spc (X (r+i)))[m]? =some v->w.cell? (((a.add (r*4)).add (i*4)).add m)=some v:=fun {w s D l X} h i m v hi e=>by
  rw[addm];exact rowCell (f:=fun j=>spc (X j)) h hi e
 have h:=h'
 unfold FL at h
 refine⟨⟨by omega,by omega⟩,_,rfl,LdC (hrow (h'.near (w':=w.drew)) 0 1 _ om rfl) ?_⟩
 refine⟨_,rfl,Ld1 h ⟨⟨by omega,by dsimp only;omega⟩,?_⟩⟩
 rw[Nat.add_zero]
 refine flushKeys (s:=s') hqn hn30 hrn' hX hq hqso hqkn (h'.near (w':=w.drew)) fun rem acc fb w hr1 hr2 heq hrel hfb hal h'=>?_
 clear h
 have h:=h'
 unfold FL at h
 refine⟨_,rfl,?_⟩
 refine sortFlush (v:=f.add 7) hfb om (((h.mv 3).mv 6)) fun out w hout h=>?_
 have h7:Sat w (Rws a 4 n (fun j=>spc (X j))::FL f E {s' with fb:=fb,fbc:=out.flatMap kcells} D' (l++fl) R):=(h.pt 6).pt 3
 clear h h'
 have hout':=hout.perm
 have hol:out.length=acc.length:=hout'.length_eq
 have h:=h7
 unfold FL at h
 refine⟨_,rfl,Ld1 h ⟨⟨by omega,by omega⟩,_,rfl,LdC (hrow h7 0 0 _ om rfl) ⟨_,rfl,Ld1 h ?_⟩⟩⟩
 obtain⟨g6,hg6,hgg,_⟩:=h.mv 6
 have hrdK:RdS w fb.a (fb.n*3) (out.flatMap kcells):=by
  unfold Buf at hg6
  cases hfa:fb.a with
  |none=>rw[hfa]at hg6;exact hg6.2.2.1
  |some b=>
   rw[hfa]at hg6
   obtain⟨g1,sp,g2,g3⟩:=hg6
   exact⟨g1,RdL.left (ys:=sp) fun j v e=>(hgg _ _ (g3.1 j v e)).1⟩
 refine AppP_run (s:=si109) (w:=w) (d:=nl) (x:=fb) (old:=[]) (new:=out.flatMap kcells) (h.bufNil 3) hrdK (by rw[kcells_flat_len,hol,hfb];rfl) (fun v hv=>?_) (by show(2*(0+fb.n)+1024)*56<=_;omega) (by show 0+fb.n<=_;omega) fun a45 w er ea h=>?_
 ·simp only[List.mem_flatMap]at hv
  obtain⟨y,_,hy⟩:=hv
  exact kcells_one y v hy
 replace er:a45.n=0+fb.n:=er
 have hrw:=hrow (X:=X) h.tail 0 0 _ om rfl
 refine⟨hrw,LdAt1 h,?_⟩
 rw[Nat.add_zero]
 obtain⟨G,l1,l2,h8⟩:=bufAbs (s:=a45) (cs:=out.flatMap kcells) ((h.mv 8))
 have hkat:KeysAt G a45 (out.map (kmD G)):=by
  refine⟨out,⟨by omega,fun j x e=>?_⟩,KRel.of_kmD fun x hx=>?_⟩
  ·obtain⟨b,hb,_⟩:=l2 (j*3+0) (.int .u64 x.1) (flat_get (f:=kcells) (k:=3) out (fun _=>rfl) j 0 x _ e rfl)
   refine⟨b,hb,fun i v ev=>?_⟩
   obtain⟨b',hb',hd⟩:=l2 (j*3+i) v (flat_get (f:=kcells) (k:=3) out (fun _=>rfl) j i x v e ev)
   rw[hb]at hb'
   injection hb' with hb'
   rw[hb',Addr.add_add];exact hd
  ·obtain⟨m,_,_,g1,g2⟩:=hrel.mem x (hout'.mem_iff.1 hx)
   exact⟨_,_,g1.mono l1,g2.mono l1⟩
 have hkperm:(out.map (kmD G)).Perm ((qs.drop r).flatMap (·.keys)):=by
  rw[(hrel.mono l1).kmD]
  exact hout'.map _
 have hmid':=hmid.next (e:=q.hi) (rem:=rem) (ks:=out.map (kmD G)) hqso hq rfl (hin.hi q hqp') (hin.sz q hqp').2 hr1 heq hkperm
 have hsp:SpRel G ⟨(X r).lo,(X r).hi,a45⟩ ⟨t0,q.hi,out.map (kmD G)⟩:=⟨⟨hXr.1.1.mono l1,hXr.1.2⟩,⟨hXr.2.1.1.mono l1,hXr.2.1.2⟩,hkat⟩
 have h9:Sat w (Own G::E.C G (l++fl)::Rws a 4 n (fun j=>spc (X j))::Arr f [cmpV,s'.fmt.enc,E.em.enc,.slice s'.pend.a s'.pend.n s'.pend.c,.slice s'.done.a s'.done.n s'.done.c]::Arr (f.add 5) [s'.sbc.enc,.slice s'.sbuf.a s'.sbuf.n s'.sbuf.c]::Arr (f.add 7) [.slice fb.a fb.n fb.c]::Arr (f.add 8) [.slice s'.fk.a s'.fk.n s'.fk.c]::Arr (f.add 9) [.bool s'.fin]::Buf 3 fb (out.flatMap kcells)::R):=
  ((h8.mv 8).cons fun g hg=>E.mono l1 hg).t1
 clear h8
 have hkl:(out.map (kmD G)).length<2^32:=by rw[List.length_map];omega
 have hll:(l++fl).length<2^32:=by rw[List.length_append];have:=hmid.n;omega
 refine E.run hsp hkl hll h9 fun w h=>?_
 have h10:Sat w (Rws a 4 n (fun j=>spc (X j))::FL f E {s' with fb:=fb,fbc:=out.flatMap kcells} G (l++(fl++[⟨t0,q.hi,out.map (kmD G)⟩])) R):=by
  rw[<-List.append_assoc]
  exact((h.pt 8).pt 8)
 clear h h9
 refine⟨fun _ w=>Sat w (Rws a 4 n (fun j=>spc (X j))::FL f E {s' with fb:=fb,fbc:=out.flatMap kcells} G (l++(fl++[⟨t0,q.hi,out.map (kmD G)⟩])) R),?_,ifNNone (α:=Addr) h10⟩
 clear h10
 intro _ w h
 rw[Int.toNat_natCast]
 refine⟨⟨by omega,by dsimp only;omega⟩,?_⟩
 refine⟨fun m (z:Int) w=> ∃(i:Nat) (X':Nat->SpC),z=i/\i<=n-r-rem/\m=n-r-rem-i/\(∀j,r+rem<=j->j<r+rem+i->X' j=⟨(X r).hi,(X j).hi,(X j).ks⟩)/\(∀j,r+rem+i<=j->X' j=X j)/\Sat w (Rws a 4 n (fun j=>spc (X' j))::FL f E {s' with fb:=fb,fbc:=out.flatMap kcells} G (l++(fl++[⟨t0,q.hi,out.map (kmD G)⟩])) R),
  ⟨_,0,X,rfl,Nat.zero_le _,rfl,fun j h1 h2=>by omega,fun _ _=>rfl,h⟩,?_⟩
 clear h
 rintro m z w ⟨i,X',rfl,hi,hm,hX1,hX2,h⟩
 refine ifd (fun hlt=>?_) (fun hge=>?_)
 ·replace hlt:(i:Int)<((n-r-rem:Nat):Int):=hlt
  have hrc:rem≠c-r:=by omega
  have ew:IntKind.i64.wrap ((i:Int)+1)=((i+1:Nat):Int):=w1 om
  refine⟨⟨by omega,hlt⟩,(a.add (r*4)).add (rem*4),by unfold sub;rw[if_neg (fun e=>hrc e.symm)];rfl,?_⟩
  rw[Int.toNat_natCast,addm,addm,<-Nat.add_assoc,ew]
  refine rowSt (i:=0) (v:=.slice (X' (r+rem+i)).lo.a (X' (r+rem+i)).lo.n (X' (r+rem+i)).lo.c) h om rfl rfl fun w h=>?_
  refine⟨n-r-rem-(i+1),by omega,i+1,upd X' (r+rem+i) ⟨(X r).hi,(X (r+rem+i)).hi,(X (r+rem+i)).ks⟩,rfl,by omega,rfl,fun j h1 h2=>?_,fun j h1=>?_,?_⟩
  ·by_cases e:j=r+rem+i
   ·subst e;rw[upd_same]
   ·rw[upd_other e];exact hX1 j h1 om
  ·rw[upd_other om];exact hX2 j om
  ·rw[Rws.congr (g:=fun j=>spc (upd X' (r+rem+i) ⟨(X r).hi,(X (r+rem+i)).hi,(X (r+rem+i)).ks⟩ j))]at h
   ·exact h
   ·intro j _
    by_cases e:j=r+rem+i
    ·subst e;rw[upd_same,upd_same,hX2 _ (Nat.le_refl _)];rfl
    ·rw[upd_other e,upd_other e]
 ·replace hge: ¬(i:Int)<((n-r-rem:Nat):Int):=hge
  have hie:i=n-r-rem:=by omega
  subst hie
  refine⟨n-(r+rem),by omega,r+rem,X',G,fl++[⟨t0,q.hi,out.map (kmD G)⟩],q.hi,{s' with fb:=fb,fbc:=out.flatMap kcells},rfl,by omega,by omega,by omega,fun h0=>?_,hD.trans l1,fun j x hj hx=>?_,hmid',p1,p2,p3,p4,h⟩
  ·have hrc: ¬c-r=rem:=by omega
   show(sub (some (a.add (r*4))) 4 rem (n-r) (c-r)).a=_
   unfold sub
   rw[if_neg hrc]
   exact congrArg some (addm a r rem)
  ·have hjn:j<n:=by have:=(List.getElem?_eq_some_iff.1 hx).1;omega
   have h1:=(hX j x om hx).mono l1
   rw[hX1 j hj om]
   exact⟨⟨hXr.2.1.1.mono l1,hXr.2.1.2⟩,h1.2.1,h1.2.2⟩
def FX (f:Addr)(E:EmitI)(s:FrS)(fkb:ByteArray)(D:Hp)(l:List SpanM)(xs:List SpC)(R:List Chunk):List Chunk:=
 FL f E s D l (Buf 4 s.pend (xs.flatMap spc)::Buf 4 s.done []::Buf 1 s.fk (bytesOf fkb)::R)
def cutP (kb:ByteArray)(p:SpanM):Option SpanM:=if bcmp kb p.hi<0 then some ⟨kb,p.hi,p.keys⟩else none
def cutD (kb:ByteArray)(p:SpanM):SpanM:=if bcmp kb p.hi<0 then⟨p.lo,kb,p.keys⟩else p
theorem getD_app {α:Type}{l:List α}{x d:α}:(l++[x]).getD l.length d=x:=by simp
theorem getD_app_lt {α:Type}{l:List α}{x d:α}{j:Nat}(h:j<l.length):(l++[x]).getD j d=l.getD j d:=by
 rw[List.getD_eq_getElem?_getD,List.getD_eq_getElem?_getD,List.getElem?_append_left h]
theorem flat_congr {f g:Nat->List Value}: ∀{n:Nat},(∀j,j<n->f j=g j)->flat f n=flat g n
 |0,_=>rfl
 |n+1,h=>by rw[flat,flat,flat_congr fun j hj=>h j om,h n om]
theorem cutD_keys {kb:ByteArray}(p:SpanM):(cutD kb p).keys=p.keys:=by unfold cutD;split<;>rfl
theorem cutD_lo {kb:ByteArray}(p:SpanM):(cutD kb p).lo=p.lo:=by unfold cutD;split<;>rfl
theorem cutD_flat {kb:ByteArray}(ps:List SpanM):((ps.map (cutD kb)).flatMap (·.keys))=ps.flatMap (·.keys):=by
 rw[List.flatMap_map]
 congr 1
 funext p
 exact cutD_keys p
theorem cutD_in {ps:List SpanM}{kb x0:ByteArray}(hlo: ∀p∈ps,p.lo=x0/\bcmp x0 p.hi<0)(hsz: ∀p∈ps,p.lo.size<2^28/\p.hi.size<2^28)(hkz:kb.size<2^28)(hxk:bcmp x0 kb<0)
  (hnd:((ps.flatMap (·.keys)).map (·.tr)).Nodup) (hkn:(ps.flatMap (·.keys)).length<2^30) (hn30:ps.length<2^30):FlIn x0 kb (ps.map (cutD kb)):=by
 refine⟨fun p hp=>?_,fun p hp=>?_,fun p hp=>?_,by rw[cutD_flat];exact hnd,by rw[cutD_flat];exact hkn,by rw[List.length_map];exact hn30⟩<;>obtain⟨q,hq,rfl⟩:=List.mem_map.1 hp
 ·rw[cutD_lo]
  refine⟨(hlo q hq).1,?_⟩
  unfold cutD;split
  ·exact hxk
  ·exact(hlo q hq).2
 ·unfold cutD;split
  ·exact le_refl_b _
  ·rename_i hc;exact not_lt_b.1 hc
 ·rw[cutD_lo]
  refine⟨(hsz q hq).1,?_⟩
  unfold cutD;split
  ·exact hkz
  ·exact(hsz q hq).2
set_option maxHeartbeats 2000000 in
theorem spec110 {E:EmitI}{f:Addr}{s:FrS}{fkb kb:ByteArray}{D:Hp}{l:List SpanM}{xs:List SpC}{ps:List SpanM}{x0:ByteArray}{key:Sl}{R w}{K:Unit->WP}(hps:SpsRel D xs ps)(hpn:s.pend.n=ps.length)
  (hlo: ∀p∈ps,p.lo=x0/\bcmp x0 p.hi<0) (hsz: ∀p∈ps,p.lo.size<2^28/\p.hi.size<2^28) (hx0:x0.size<2^28) (hnd:((ps.flatMap (·.keys)).map (·.tr)).Nodup) (hkn:(ps.flatMap (·.keys)).length<2^30) (hn30:ps.length<2^30)
  (hkey:BytesAt D key kb) (hkey2:key.a.isSome=true) (hkz:kb.size<2^28) (hxk:bcmp x0 kb<0) (hl:l.length+ps.length<2^32) (hd0:s.done.n=0) (h:Sat w (FX f E s fkb D l xs R))
  (k: ∀D' fl ys s' w',D.le D'->Flushed x0 (ps.map (cutD kb)) fl kb->fl.length<=ps.length->SpsRel D' ys (ps.filterMap (cutP kb))->s'.pend.n=(ps.filterMap (cutP kb)).length->s'.done.n=0->s'.fin=s.fin->Sat w' (FX f E s' kb D' (l++fl) ys R)->K () w'):F110 (some f) key K w:=by
 have hxl:=hps.len
 unfold F110
 unfold FX FL at h
 have hrd:=(h.near (w':=w.drew)).rdB .k6 hkey
 have hkn':kb.size=key.n:=by
  obtain⟨a,n,c⟩:=key
  cases a with
  |none=>cases hkey2
  |some a=>exact hrd.1
 refine⟨_,rfl,Ld1 h ⟨⟨by omega,by dsimp only;omega⟩,?_⟩⟩
 have h1:=bufTrunc (h.mv 10)
 refine AppP_run (s:=si87) (old:=[]) (d:=⟨s.fk.a,0,s.fk.c⟩) (x:=key) (new:=bytesOf kb) h1 ((h.near).rdB .k6 hkey).rdS (by rw[bytesOf_length,hkn'];exact(Nat.mul_one _).symm) (bytes_one kb) (by show(2*(0+key.n)+1024)*1<=_;omega) (by dsimp only;omega) fun fk' w er ea h=>?_
 refine⟨_,rfl,St1 h rfl fun w h=>⟨_,rfl,Ld1 h ⟨⟨by omega,by dsimp only;omega⟩,_,rfl,Ld1 h ⟨_,rfl,Ld1 h ⟨⟨by omega,by dsimp only;omega⟩,_,rfl,St1 h rfl fun w h=>?_⟩⟩⟩⟩⟩
 have h2:=h.mv 9
 rw[<-flat_all spc xpd xs,show xs.length=s.pend.n by omega]at h2
 have hnone:s.pend.a=none->s.pend.n=0/\s.pend.c=0:=fun hh=>by
  obtain⟨g,hg,_⟩:=h2
  unfold Buf at hg
  rw[hh]at hg
  exact⟨hg.1,hg.2.1⟩
 obtain⟨hnc,hka,h3⟩:=bufOpen (k:=4) (p:=f) (f:=fun j=>spc (xs.getD j xpd)) (fun j _=>rfl) (Nat.succ_pos _) h2
 have hdone:s.done=⟨s.done.a,0,s.done.c⟩:=by
  generalize s.done=d at hd0
  obtain⟨a,n,c⟩:=d
  dsimp only at hd0|-
  rw[hd0]
 have hfk:fk'=⟨fk'.a,fk'.n,fk'.c⟩:=rfl
 refine⟨fun m (z:Sl×Int) w=> ∃(i:Nat) (ys zs:List SpC) (dn:Sl) (g:Nat->List Value),z=(dn,(i:Int))/\i<=ps.length/\m=ps.length-i/\SpsRel D ys ((ps.take i).filterMap (cutP kb))/\SpsRel D zs ((ps.take i).map (cutD kb))/\dn.n=zs.length/\
   (∀j,j<ys.length->g j=spc (ys.getD j xpd))/\(∀j,i<=j->g j=spc (xs.getD j xpd))/\(∀j,(g j).length=4)/\Sat w (Rws (s.pend.a.getD f) 4 s.pend.n g::spareO 4 s.pend::Buf 1 fk' (bytesOf kb)::Arr f [cmpV,s.fmt.enc,E.em.enc,.slice s.pend.a ys.length s.pend.c,.slice s.done.a s.done.n s.done.c]::Arr (f.add 5) [s.sbc.enc,.slice s.sbuf.a s.sbuf.n s.sbuf.c]::Arr (f.add 7) [.slice s.fb.a s.fb.n s.fb.c]::Arr (f.add 8) [.slice fk'.a fk'.n fk'.c]::Arr (f.add 9) [.bool s.fin]::Buf 3 s.fb s.fbc::Own D::E.C D l::Buf 4 dn (zs.flatMap spc)::R),⟨_,0,[],[],⟨s.done.a,0,s.done.c⟩,fun j=>spc (xs.getD j xpd),rfl,Nat.zero_le _,rfl,trivial,trivial,rfl,fun j hj=>by simp at hj,fun _ _=>rfl,fun _=>rfl,by rw[<-hdone];exact h3⟩,?_⟩
 clear h h1 h2 h3
 rintro m z w ⟨i,ys,zs,dn,g,rfl,hi,hm,hys,hzs,hdn,hg1,hg2,hg4,h⟩
 have hyl:=hys.len
 have hyi:ys.length<=i:=by
  have h1:=List.length_filterMap_le (cutP kb) (ps.take i)
  rw[List.length_take]at h1;omega
 have hzl:=hzs.len
 rw[List.length_map,List.length_take]at hzl
 have hzl':zs.length=i:=by omega
 dsimp only
 refine ifd (fun hlt=>?_) (fun hge=>?_)
 ·replace hlt:(i:Int)<s.pend.n:=hlt
  have hil:i<ps.length:=by omega
  have hka':=hka om
  have hp:ps[i]? =some ps[i]:=List.getElem?_eq_getElem hil
  have hx:xs[i]? =some (xs.getD i xpd):=by rw[List.getD_eq_getElem?_getD,List.getElem?_eq_getElem om];rfl
  have hxp:=hps.get i _ _ hx hp
  have hpm:=List.getElem_mem hil
  have hr:RdL w ((s.pend.a.getD f).add (i*4)) (spc (xs.getD i xpd)):=by
   have:=rowRd h (j:=i) om
   rwa[hg2 i (Nat.le_refl _)]at this
  generalize xs.getD i xpd=x at hx hxp hr
  have htake:ps.take (i+1)=ps.take i++[ps[i]]:=by rw[List.take_add_one,hp];rfl
  generalize ps[i]=p at hp hxp hpm htake
  obtain⟨hpl,hph⟩:=hlo p hpm
  have ew:IntKind.i64.wrap ((i:Int)+1)=((i+1:Nat):Int):=w1 om
  rw[ew,Int.toNat_natCast]
  unfold spc at hr
  refine⟨⟨by omega,hlt⟩,_,hka',LdR hr ?_⟩
  refine NewP_run h fun n18 w h=>StL_of (St1 h rfl fun w h=>St1 h rfl fun w h=>St1 h rfl fun w h=>St1 h rfl fun w h=>?_)
  refine⟨_,rfl,Ld1 h (Ld1 h ?_)⟩
  refine callCmp (a:=key) (b:=x.hi) (h.near.rdB .k10 hkey) (h.near.rdB .k10 hxp.2.1.1) ?_
  refine ifd (fun hc=>?_) (fun hc=>?_)
  ·
   have eP:cutP kb p=some ⟨kb,p.hi,p.keys⟩:=if_pos hc
   have eD:cutD kb p=⟨p.lo,kb,p.keys⟩:=if_pos hc
   refine⟨fun(dn':Sl) w=> ∃zs',SpsRel D zs' ((ps.take i).map (cutD kb)++[⟨p.lo,kb,p.keys⟩])/\dn'.n=zs'.length/\Sat w (Arr n18 [.slice x.lo.a x.lo.n x.lo.c,.slice x.hi.a x.hi.n x.hi.c,.slice x.ks.a x.ks.n x.ks.c,.int .i8 (0:Int)]::Rws (s.pend.a.getD f) 4 s.pend.n g::spareO 4 s.pend::Buf 1 fk' (bytesOf kb)::Arr f [cmpV,s.fmt.enc,E.em.enc,.slice s.pend.a ys.length s.pend.c,.slice s.done.a s.done.n s.done.c]::Arr (f.add 5) [s.sbc.enc,.slice s.sbuf.a s.sbuf.n s.sbuf.c]::Arr (f.add 7) [.slice s.fb.a s.fb.n s.fb.c]::Arr (f.add 8) [.slice fk'.a fk'.n fk'.c]::Arr (f.add 9) [.bool s.fin]::Buf 3 s.fb s.fbc::Own D::E.C D l::Buf 4 dn' (zs'.flatMap spc)::R),?_,?_⟩
   ·clear h
    rintro dn' w ⟨zs',hzs',hdn',h⟩
    refine⟨_,rfl,Ld1 h (Ld1 h (Ld1 h (NewS_run h fun pn w h=>⟨LdAt1 h,?_⟩)))⟩
    refine AppP_inD (a:=s.pend.a.getD f) (new:=[.slice key.a key.n key.c,.slice x.hi.a x.hi.n x.hi.c,.slice x.ks.a x.ks.n x.ks.c,.int .i8 (0:Int)]) hka' (by dsimp only;omega) ⟨rfl,h.rdL .here⟩ ?_
    have h1:=h.mv 2
    simp only[mv]at h1
    refine rowSet (k:=4) (j:=ys.length) h1 om (hg4 _) rfl (spc_one ⟨key,x.hi,x.ks⟩) fun w h=>?_
    refine⟨_,rfl,St1 h rfl fun w h=>?_⟩
    have h2:=(h.t1.tail).t1.tail
    refine⟨_,?_,i+1,ys++[⟨key,x.hi,x.ks⟩],zs',dn',upd g ys.length (spc ⟨key,x.hi,x.ks⟩),rfl,by omega,rfl,?_,?_,hdn',fun j hj=>?_,fun j hj=>?_,fun j=>?_,?_⟩
    ·omega
    ·rw[htake,List.filterMap_append]
     refine hys.app ?_
     have e5:([p]:List SpanM).filterMap (cutP kb)=[⟨kb,p.hi,p.keys⟩]:=by rw[List.filterMap_cons,eP];rfl
     rw[e5]
     exact⟨⟨⟨hkey,hkey2⟩,hxp.2.1,hxp.2.2⟩,trivial⟩
    ·rw[htake,List.map_append,List.map_singleton,eD];exact hzs'
    ·rw[List.length_append,List.length_singleton]at hj
     by_cases e:j=ys.length
     ·subst e;rw[upd_same,getD_app]
     ·rw[upd_other e,getD_app_lt om];exact hg1 j om
    ·rw[upd_other om];exact hg2 j om
    ·unfold upd;split
     ·rfl
     ·exact hg4 j
    ·rw[List.length_append,List.length_singleton];exact h2
   ·refine⟨_,rfl,Ld1 h (Ld1 h ?_)⟩
    refine callCmp (a:=x.lo) (b:=key) (h.near.rdB .k10 hxp.1.1) (h.near.rdB .k10 hkey) ?_
    refine ifd (fun _=>?_) (fun hh=>absurd (by rw[hpl];exact hxk) hh)
    refine Ld1 h (Ld1 h (NewS_run h fun pn w h=>?_))
    refine App1 (k:=4) rfl h .k13 .here rfl (spc_one ⟨x.lo,key,x.ks⟩) ?_ om fun r w er ea h=>?_
    ·show(2*(dn.n+1)+1024)*80<=_
     omega
    have hone:SpsRel D [⟨x.lo,key,x.ks⟩] [⟨p.lo,kb,p.keys⟩]:=⟨⟨hxp.1,⟨hkey,hkey2⟩,hxp.2.2⟩,trivial⟩
    refine⟨zs++[⟨x.lo,key,x.ks⟩],hzs.app hone,by rw[List.length_append,List.length_singleton];omega,?_⟩
    have e1:(zs++([⟨x.lo,key,x.ks⟩]:List SpC)).flatMap spc=zs.flatMap spc++spc ⟨x.lo,key,x.ks⟩:=by simp[List.flatMap_append]
    rw[e1]
    exact(h.t1.tail).pt 12
  ·
   have eP:cutP kb p=none:=if_neg hc
   have eD:cutD kb p=p:=if_neg hc
   refine LdN h (NewS_run h fun pn w h=>?_)
   refine App1 (k:=4) rfl h .k13 .here rfl (spc_one x) ?_ om fun r w er ea h=>?_
   ·show(2*(dn.n+1)+1024)*80<=_
    omega
   refine⟨_,?_,i+1,ys,zs++[x],r,g,rfl,by omega,rfl,?_,?_,by rw[List.length_append,List.length_singleton];omega,hg1,fun j hj=>hg2 j om,hg4,?_⟩
   ·omega
   ·rw[htake,List.filterMap_append,List.filterMap_cons,eP,List.filterMap_nil,List.append_nil];exact hys
   ·rw[htake,List.map_append,List.map_singleton,eD];exact hzs.app ⟨hxp,trivial⟩
   ·have e1:(zs++[x]).flatMap spc=zs.flatMap spc++spc x:=by simp[List.flatMap_append]
    rw[e1]
    exact((h.t1.tail).t1.tail).pt 11
 ·replace hge: ¬(i:Int)<s.pend.n:=hge
  have:i=ps.length:=by omega
  subst this
  rw[List.take_length]at hys hzs
  refine⟨⟨by omega,by omega⟩,_,rfl,St1 h rfl fun w h=>?_⟩
  have h1:=bufShut (k:=4) (m:=ys.length) (fun j _=>hg4 j) om hnone h
  have e1:flat g ys.length=ys.flatMap spc:=by
   rw[<-flat_all spc xpd ys]
   exact flat_congr fun j hj=>hg1 j hj
  rw[e1]at h1
  have h2:=h1.mv 10
  rw[<-flat_all spc xpd zs,<-hdn]at h2
  have hnd':dn.a=none->dn.n=0/\dn.c=0:=fun hh=>by
   obtain⟨g,hg,_⟩:=h2
   unfold Buf at hg
   rw[hh]at hg
   exact⟨hg.1,hg.2.1⟩
  obtain⟨hdnc,hda,h3⟩:=bufOpen (k:=4) (p:=f) (f:=fun j=>spc (zs.getD j xpd)) (fun j _=>rfl) (Nat.succ_pos _) h2
  have h4:Sat w (Rws (dn.a.getD f) 4 (ps.map (cutD kb)).length (fun j=>spc (zs.getD j xpd))::FL f E {s with pend:=⟨s.pend.a,ys.length,s.pend.c⟩,done:=⟨dn.a,0,dn.c⟩,fk:=fk'} D l (spareO 4 dn::Buf 4 ⟨s.pend.a,ys.length,s.pend.c⟩ (ys.flatMap spc)::Buf 1 fk' (bytesOf kb)::R)):=by
   rw[List.length_map,<-hzl',<-hdn]
   exact((((((((((((h3.mv 3).mv 3).mv 3).mv 11).mv 11).mv 11).mv 11).mv 11).mv 11).mv 11).mv 11).mv 11)
  have hinD:FlIn x0 kb (ps.map (cutD kb)):=cutD_in hlo hsz hkz hxk hnd hkn hn30
  have el:(ps.map (cutD kb)).length=dn.n:=by rw[List.length_map];omega
  rw[el]at h4
  refine call111 (buf2:=dn) (lastKey3:=nl) ?_
  refine spec111 (t:=kb) (x0:=x0) (n:=dn.n) hzs el hinD hx0 hda hdnc om h4 ?_
  intro D' fl g' s' w hD hfl hfn hg' p1 p2 p3 p4 h
  have h5:Sat w (Rws (dn.a.getD f) 4 dn.n g'::spareO 4 dn::FL f E s' D' (l++fl) (Buf 4 ⟨s.pend.a,ys.length,s.pend.c⟩ (ys.flatMap spc)::Buf 1 fk' (bytesOf kb)::R)):=
   ((((((((((((h.mv 11).mv 11).mv 10).mv 10).mv 10).mv 10).mv 10).mv 10).mv 10).mv 10).mv 11).mv 11)
  have h6:=bufShut (k:=4) (m:=0) hg' (Nat.zero_le _) hnd' h5
  have e6:FX f E s' kb D' (l++fl) ys R=FL f E s' D' (l++fl) (Buf 4 ⟨s.pend.a,ys.length,s.pend.c⟩ (ys.flatMap spc)::Buf 4 ⟨dn.a,0,dn.c⟩ []::Buf 1 fk' (bytesOf kb)::R):=by
   unfold FX
   rw[p1,p2,p3]
  refine k D' fl ys s' w hD hfl om (hys.mono hD) (by rw[p1];exact hys.len) (by rw[p2]) p4 ?_
  rw[e6]
  exact(((((((((((h6.mv 10).mv 1).mv 10).mv 10).mv 10).mv 10).mv 10).mv 10).mv 10).mv 10).mv 10)
structure FrInv (ss out ps:List SpanM)(x0:ByteArray):Prop where
 ok:SpansOK out
 below: ∀f∈out,bcmp f.hi x0<=0
 lo: ∀p∈ps,p.lo=x0/\bcmp x0 p.hi<0
 sz: ∀p∈ps,p.lo.size<2^28/\p.hi.size<2^28
 xz:x0.size<2^28
 past: ∀y,bcmp y x0<0->(keysOf out y).Perm (covK ss y)
 cur: ∀y,bcmp x0 y<=0->((ps.filter fun p=>decide (bcmp y p.hi<0)).flatMap (·.keys)).Perm (covK ss y)
 sub:(ps.flatMap (·.keys)).Sublist (ss.flatMap (·.keys))
 n:ps.length<=ss.length
 on:out.length<=ss.length*ss.length
theorem FrInv.init :FrInv [] [] [] .empty:=
 ⟨SpansOK.nil,fun f hf=>by simp at hf,fun f hf=>by simp at hf,fun f hf=>by simp at hf,by show 0<_;omega,fun y hy=>absurd hy (not_lt_b.2 (empty_le y)),fun y _=>.refl _,.refl _,Nat.le_refl _,Nat.le_refl _⟩
theorem covK_one {s:SpanM}{y:ByteArray}:covK [s] y=if bcmp s.lo y<=0/\bcmp y s.hi<0 then s.keys else []:=by
 unfold covK
 by_cases h:bcmp s.lo y<=0/\bcmp y s.hi<0
 ·rw[if_pos h];simp[h.1,h.2]
 ·rw[if_neg h]
  have:(decide (bcmp s.lo y<=0)&&decide (bcmp y s.hi<0))=false:=by
   rw[<-Bool.not_eq_true];simpa using h
  simp[List.filter_cons,this]
theorem covK_snoc_out {ss:List SpanM}{s:SpanM}{y:ByteArray}(h: ¬(bcmp s.lo y<=0/\bcmp y s.hi<0)):covK (ss++[s]) y=covK ss y:=by
 rw[covK_app,covK_one,if_neg h,List.append_nil]
theorem sq_le (n:Nat):n*n+n<=(n+1)*(n+1):=by rw[Nat.succ_mul,Nat.mul_succ];omega
theorem sub_snoc {a b:List SpanM}{s:SpanM}(h:(a.flatMap (·.keys)).Sublist (b.flatMap (·.keys))):(a.flatMap (·.keys)).Sublist ((b++[s]).flatMap (·.keys)):=by
 rw[List.flatMap_append]
 exact h.trans (List.sublist_append_left _ _)
theorem FrInv.skip {ss out ps:List SpanM}{x0:ByteArray}{s:SpanM}(h:FrInv ss out ps x0)(hs: ¬bcmp s.lo s.hi<0):FrInv (ss++[s]) out ps x0:=by
 have hn: ∀y,¬(bcmp s.lo y<=0/\bcmp y s.hi<0):=fun y hy=>hs (bcmp_le_lt hy.1 hy.2)
 refine⟨h.ok,h.below,h.lo,h.sz,h.xz,fun y hy=>by rw[covK_snoc_out (hn y)];exact h.past y hy,fun y hy=>by rw[covK_snoc_out (hn y)];exact h.cur y hy,sub_snoc h.sub,?_,?_⟩
 ·rw[List.length_append];have:=h.n;omega
 ·rw[List.length_append,List.length_singleton];have:=h.on;have:=sq_le ss.length;omega
theorem FrInv.same {ss out ps:List SpanM}{x0:ByteArray}{s:SpanM}(h:FrInv ss out ps x0)(hx:s.lo=x0)(hs:bcmp s.lo s.hi<0)(hz:s.lo.size<2^28/\s.hi.size<2^28):FrInv (ss++[s]) out (ps++[s]) x0:=by
 subst hx
 refine⟨h.ok,h.below,fun p hp=>?_,fun p hp=>?_,h.xz,fun y hy=>?_,fun y hy=>?_,?_,?_,?_⟩
 ·rcases List.mem_append.1 hp with hp|hp
  ·exact h.lo p hp
  ·simp only[List.mem_singleton]at hp;rw[hp];exact⟨rfl,hs⟩
 ·rcases List.mem_append.1 hp with hp|hp
  ·exact h.sz p hp
  ·simp only[List.mem_singleton]at hp;rw[hp];exact hz
 ·rw[covK_snoc_out fun g=>absurd hy (not_lt_b.2 g.1)];exact h.past y hy
 ·rw[List.filter_append,List.flatMap_append,covK_app,covK_one]
  refine(h.cur y hy).append ?_
  by_cases hc:bcmp y s.hi<0
  ·rw[if_pos ⟨hy,hc⟩];simp[hc]
  ·rw[if_neg fun g=>hc g.2];simp[hc]
 ·rw[List.flatMap_append,List.flatMap_append];exact h.sub.append (.refl _)
 ·rw[List.length_append,List.length_append];have:=h.n;simp only[List.length_singleton];omega
 ·rw[List.length_append,List.length_singleton];have:=h.on;have:=sq_le ss.length;omega
theorem keysOf_above {l:List SpanM}{y:ByteArray}(h: ∀f∈l,bcmp f.hi y<=0):keysOf l y=[]:=by
 unfold keysOf;rw[covs_above h]
theorem FrInv.move {ss out:List SpanM}{x0 x1:ByteArray}(h:FrInv ss out [] x0)(hx:bcmp x0 x1<=0)(hz:x1.size<2^28):FrInv ss out [] x1:=by
 refine⟨h.ok,fun f hf=>bcmp_trans (h.below f hf) hx,fun f hf=>by simp at hf,fun f hf=>by simp at hf,hz,fun y hy=>?_,fun y hy=>h.cur y (bcmp_trans hx hy),h.sub,h.n,h.on⟩
 by_cases hy0:bcmp y x0<0
 ·exact h.past y hy0
 ·rw[keysOf_above fun f hf=>bcmp_trans (h.below f hf) (not_lt_b.1 hy0)]
  exact h.cur y (not_lt_b.1 hy0)
theorem filter_cutD {kb y:ByteArray}(hy:bcmp y kb<0): ∀(ps:List SpanM),((ps.map (cutD kb)).filter fun p=>decide (bcmp y p.hi<0)).flatMap (·.keys)=(ps.filter fun p=>decide (bcmp y p.hi<0)).flatMap (·.keys)
 | []=>rfl
 | p :: ps => by
  have ih:=filter_cutD hy ps
  have e:decide (bcmp y (cutD kb p).hi<0)=decide (bcmp y p.hi<0):=by
   unfold cutD
   split
   ·rename_i hc
    rw[decide_eq_true hy,decide_eq_true (bcmp_lt_le hy (lt_le_b hc))]
   ·rfl
  rw[List.map_cons,List.filter_cons,List.filter_cons,e]
  split
  ·rw[List.flatMap_cons,List.flatMap_cons,ih,cutD_keys]
  ·exact ih
theorem filter_cutP {kb y:ByteArray}(hy:bcmp kb y<=0): ∀(ps:List SpanM),((ps.filterMap (cutP kb)).filter fun p=>decide (bcmp y p.hi<0)).flatMap (·.keys)=(ps.filter fun p=>decide (bcmp y p.hi<0)).flatMap (·.keys)
 | []=>rfl
 | p :: ps => by
  have ih:=filter_cutP hy ps
  rw[List.filterMap_cons,List.filter_cons]
  by_cases hc:bcmp kb p.hi<0
  ·have eP:cutP kb p=some ⟨kb,p.hi,p.keys⟩:=if_pos hc
   rw[eP]
   dsimp only
   rw[List.filter_cons]
   dsimp only
   by_cases h2:bcmp y p.hi<0
   ·simp[h2];exact ih
   ·simp[h2];exact ih
  ·have eP:cutP kb p=none:=if_neg hc
   rw[eP]
   dsimp only
   have h2: ¬bcmp y p.hi<0:=fun g=>hc (bcmp_le_lt hy g)
   simp[h2];exact ih
theorem cutP_sub {kb:ByteArray}: ∀(ps:List SpanM),((ps.filterMap (cutP kb)).flatMap (·.keys)).Sublist (ps.flatMap (·.keys))
 | []=>.refl _
 | p :: ps => by
  have ih:=cutP_sub (kb:=kb) ps
  rw[List.filterMap_cons]
  by_cases hc:bcmp kb p.hi<0
  ·have eP:cutP kb p=some ⟨kb,p.hi,p.keys⟩:=if_pos hc
   rw[eP]
   dsimp only
   rw[List.flatMap_cons,List.flatMap_cons]
   exact(List.Sublist.refl _).append ih
  ·have eP:cutP kb p=none:=if_neg hc
   rw[eP]
   dsimp only
   rw[List.flatMap_cons]
   exact ih.trans (List.sublist_append_right _ _)
theorem FrInv.cut {ss out ps fl:List SpanM}{x0 kb:ByteArray}(h:FrInv ss out ps x0)(hx:bcmp x0 kb<0)(hz:kb.size<2^28)(hf:Flushed x0 (ps.map (cutD kb)) fl kb):
  SpansOK (out++fl)/\(∀f∈out++fl,bcmp f.hi kb<=0)/\(∀y,bcmp y kb<0->(keysOf (out++fl) y).Perm (covK ss y))/\(∀p∈ps.filterMap (cutP kb),p.lo=kb/\bcmp kb p.hi<0)/\(∀p∈ps.filterMap (cutP kb),p.lo.size<2^28/\p.hi.size<2^28)/\
   (∀y,bcmp kb y<=0->(((ps.filterMap (cutP kb)).filter fun p=>decide (bcmp y p.hi<0)).flatMap (·.keys)).Perm (covK ss y)):=by
 refine⟨h.ok.app hf.ok h.below hf.lo,fun f hf'=>?_,fun y hy=>?_,fun p hp=>?_,fun p hp=>?_,fun y hy=>?_⟩
 ·rcases List.mem_append.1 hf' with g|g
  ·exact bcmp_trans (h.below f g) (lt_le_b hx)
  ·exact hf.hi f g
 ·by_cases hy0:bcmp y x0<0
  ·rw[keysOf_lt hf.lo hy0];exact h.past y hy0
  ·have hy0:=not_lt_b.1 hy0
   rw[keysOf_ge h.below hy0]
   refine(hf.ks y hy0).trans ?_
   rw[filter_cutD hy]
   exact h.cur y hy0
 ·obtain⟨q,hq,e⟩:=List.mem_filterMap.1 hp
  unfold cutP at e
  split at e
  ·rename_i hc
   injection e with e
   rw[<-e];exact⟨rfl,hc⟩
  ·cases e
 ·obtain⟨q,hq,e⟩:=List.mem_filterMap.1 hp
  unfold cutP at e
  split at e
  ·injection e with e
   rw[<-e];exact⟨hz,(h.sz q hq).2⟩
  ·cases e
 ·rw[filter_cutP hy]
  exact h.cur y (bcmp_trans (lt_le_b hx) hy)
theorem FrInv.step {ss out ps fl:List SpanM}{x0:ByteArray}{s:SpanM}(h:FrInv ss out ps x0)(hx:bcmp x0 s.lo<0)(hs:bcmp s.lo s.hi<0)(hz:s.lo.size<2^28/\s.hi.size<2^28)(hf:Flushed x0 (ps.map (cutD s.lo)) fl s.lo)(hn:fl.length<=ps.length):
  FrInv (ss++[s]) (out++fl) (ps.filterMap (cutP s.lo)++[s]) s.lo:=by
 obtain⟨h1,h2,h3,h4,h5,h6⟩:=h.cut hx hz.1 hf
 refine⟨h1,h2,fun p hp=>?_,fun p hp=>?_,hz.1,fun y hy=>?_,fun y hy=>?_,?_,?_,?_⟩
 ·rcases List.mem_append.1 hp with hp|hp
  ·exact h4 p hp
  ·simp only[List.mem_singleton]at hp;rw[hp];exact⟨rfl,hs⟩
 ·rcases List.mem_append.1 hp with hp|hp
  ·exact h5 p hp
  ·simp only[List.mem_singleton]at hp;rw[hp];exact hz
 ·rw[covK_snoc_out fun g=>absurd hy (not_lt_b.2 g.1)];exact h3 y hy
 ·rw[List.filter_append,List.flatMap_append,covK_app,covK_one]
  refine(h6 y hy).append ?_
  by_cases hc:bcmp y s.hi<0
  ·rw[if_pos ⟨hy,hc⟩];simp[hc]
  ·rw[if_neg fun g=>hc g.2];simp[hc]
 ·rw[List.flatMap_append,List.flatMap_append];exact((cutP_sub ps).trans h.sub).append (.refl _)
 ·rw[List.length_append,List.length_append];have:=h.n;have:=List.length_filterMap_le (cutP s.lo) ps;simp only[List.length_singleton];omega
 ·rw[List.length_append,List.length_append,List.length_singleton];have:=h.on;have:=h.n;have:=sq_le ss.length;omega
theorem map_id {α:Type}{f:α->α}: ∀{l:List α},(∀x∈l,f x=x)->l.map f=l
 | [],_=>rfl
 |x::l,h=>by rw[List.map_cons,h x (by simp),map_id fun y hy=>h y (by simp[hy])]
theorem covK_sub : ∀(ss:List SpanM) (y:ByteArray),(covK ss y).Sublist (ss.flatMap (·.keys))
 | [],_=>.refl _
 |s::ss,y=>by
  show(covK ([s]++ss) y).Sublist _
  rw[covK_app,List.flatMap_cons]
  refine List.Sublist.append ?_ (covK_sub ss y)
  rw[covK_one]
  split
  ·exact .refl _
  ·exact List.nil_sublist _
theorem covK_nd {ss:List SpanM}(h:((ss.flatMap (·.keys)).map (·.tr)).Nodup)(y:ByteArray):((covK ss y).map (·.tr)).Nodup:=((covK_sub ss y).map _).nodup h
theorem FrInv.nd {ss out ps:List SpanM}{x0:ByteArray}(h:FrInv ss out ps x0)(hnd: ∀y,((covK ss y).map (·.tr)).Nodup):((ps.flatMap (·.keys)).map (·.tr)).Nodup:=by
 have h1:=h.cur x0 (le_refl_b x0)
 have e:ps.filter (fun p=>decide (bcmp x0 p.hi<0))=ps:=List.filter_eq_self.2 fun p hp=>decide_eq_true (h.lo p hp).2
 rw[e]at h1
 exact(h1.map _).nodup_iff.2 (hnd x0)
theorem FrInv.fin {ss out ps fl:List SpanM}{x0 t:ByteArray}(h:FrInv ss out ps x0)(hf:Flushed x0 ps fl t):SpansOK (out++fl)/\ ∀y,(keysOf (out++fl) y).Perm (covK ss y):=by
 refine⟨h.ok.app hf.ok h.below hf.lo,fun y=>?_⟩
 by_cases hy0:bcmp y x0<0
 ·rw[keysOf_lt hf.lo hy0];exact h.past y hy0
 ·have hy0:=not_lt_b.1 hy0
  rw[keysOf_ge h.below hy0]
  exact(hf.ks y hy0).trans (h.cur y hy0)
theorem max_hi : ∀(ps:List SpanM) (x:ByteArray),∃t,bcmp x t<=0/\ ∀p∈ps,bcmp p.hi t<=0
 | [],x=>⟨x,le_refl_b x,fun p hp=>by simp at hp⟩
 | p :: ps, x => by
  obtain⟨t,h1,h2⟩:=max_hi ps x
  by_cases hc:bcmp p.hi t<=0
  ·refine⟨t,h1,fun q hq=>?_⟩
   rcases List.mem_cons.1 hq with rfl|hq
   ·exact hc
   ·exact h2 q hq
  ·have hc:=lt_le_b (not_le_b.1 hc)
   refine⟨p.hi,bcmp_trans h1 hc,fun q hq=>?_⟩
   rcases List.mem_cons.1 hq with rfl|hq
   ·exact le_refl_b _
   ·exact bcmp_trans (h2 q hq) hc
end Go.Proofs.YtpkoddfamelnhaaGreatDoor
