/- Part 2 of the proof of fnBatchHistory_card. Conditions: none. -/
import Derived.Test.YtpkoddfamelnhaaGreatDoorH01
import Derived.Laws.BytesArg
set_option linter.unusedVariables false
set_option linter.unusedSimpArgs false
namespace Go.Tr
section
variable {P : Program} {T : Tab}
theorem td_st {t:Nat}{l:List S}{fs:List (Nat×Ty)}(hT:T.ok P)(h:look T.td t=some (.st l fs)){f:Nat}{off:Nat}{ty:Ty}(hf:fs[f]? =some (off,ty)):
  ∃fds fd i u,P.underlying t=some (.struct fds)/\fds[f]? =some fd/\fd.offset=off/\P.info? fd.type=some i/\i.size=ty.size/\P.underlying fd.type=some u/\aggD u=ty.isAgg:=by
 have h1:=(hT.td _ (look_mem h)).1
 unfold fieldsOf at h1
 split at h1
 ·rename_i fds hu
  rw[Option.some.injEq]at h1
  have h2:=congrArg (fun l:List (Nat×Option Nat×Option Bool)=>l[f]?) h1
  simp only[List.getElem?_map,hf,Option.map_some,Array.getElem?_toList]at h2
  cases hfd:fds[f]? with
  |none=>simp[hfd]at h2
  |some fd=>
   simp only[hfd,Option.map_some,Option.some.injEq,Prod.mk.injEq,Option.map_eq_some_iff]at h2
   obtain⟨ho,⟨i,hi,hs⟩,⟨u,hu',hg⟩⟩:=h2
   exact⟨fds,fd,i,u,hu,hfd,ho,hi,hs,hu',hg⟩
 ·simp at h1
theorem okV_fieldAddr (hT:T.ok P){s:Nat}{a:Addr}{f:Nat}{l:List S}{fs:List (Nat×Ty)}(hl:look T.td s=some (.st l fs)){off:Nat}{ty:Ty}(hf:fs[f]? =some (off,ty))(hz:Nat.beq ty.size 0=false)(w:World):
  (Instr.fieldAt s (.pointer (some a)) f).run P w= .ok (.pointer (some (a.add off))) w:=by
 obtain⟨fds,fd,i,u,hu,hfd,ho,hi,hs,_,_⟩:=td_st hT hl hf
 have hne: ¬i.size=0:=by
  rw[hs];intro h0;rw[h0]at hz;simp[Nat.beq]at hz
 simp[Instr.fieldAt,run_underlying hu,hfd,Instr.sureAddr,fieldPlace,sizeOf,typeInfo,hi,hne,ho]
theorem si_facts {t:Nat}{s:SI}(hT:T.ok P)(h:look T.si t=some s):P.underlying t=some (.slice s.e)/\ ∃i z,P.info? s.e=some i/\i.zero=some z/\z.cells.toList=s.l.map S.zero/\i.size=s.l.length/\i.bytes=s.by_:=by
 obtain⟨h1,h2⟩:=hT.si _ (look_mem h)
 refine⟨h1,?_⟩
 cases hi:P.info? s.e with
 |none=>simp[hi]at h2
 |some i=>
  simp only[hi,Option.map_some,Option.some.injEq,Prod.mk.injEq,Option.map_eq_some_iff]at h2
  obtain⟨⟨z,hz,hc⟩,hs,hb⟩:=h2
  exact⟨i,z,rfl,hz,hc,hs,hb⟩
theorem run_sizeOf_si {t:Nat}{s:SI}(hT:T.ok P)(h:look T.si t=some s)(w:World):(sizeOf s.e).run P w= .ok s.l.length w:=by
 obtain⟨_,i,z,hi,_,_,hs,_⟩:=si_facts hT h
 simp[sizeOf,typeInfo,hi,hs]
theorem okV_index (hT:T.ok P)(t:Nat)(x i:Value):Step.okV P (Instr.indexAt t x i) (indexStep T t x i):=by
 unfold indexStep
 split<;>first|trivial|skip
 rename_i k i
 split
 ·rename_i s hs
  split<;>first|trivial|skip
  rename_i a n c
  rintro⟨h0,h1⟩ b rfl w
  obtain⟨hu,_⟩:=si_facts hT hs
  simp[Instr.indexAt,asIntOf,run_underlying hu,h0,h1,run_sizeOf_si hT hs]
 ·split<;>first|trivial|skip
  rename_i n el l hl
  split<;>first|trivial|skip
  rename_i a
  rintro⟨h0,h1⟩ w
  obtain⟨⟨e,hu,hs,_⟩,_⟩:=hT.td _ (look_mem hl)
  cases hi:P.info? e with
  |none=>simp[hi]at hs
  |some inf=>
   simp only[hi,Option.map_some,Option.some.injEq]at hs
   simp[Instr.indexAt,asIntOf,run_underlying hu,h0,h1,Instr.sureAddr,sizeOf,typeInfo,hi,hs]
theorem sub_zero (a:Option Addr)(sz h m:Nat):sub a sz 0 h m=⟨a,h,m⟩:=by
 unfold sub
 cases a<;>simp[Addr.add]
theorem run_bound (k:IntKind){x:Int}{y:Nat}(h0:0<=x)(h1:x<=(y:Int))(code:BoundsCode)(w:World):(Instr.sliceBound (.int k x) y code).run P w= .ok x.toNat w:=by
 simp[Instr.sliceBound,asIntOf,h0,h1]
theorem okV_slice (hT:T.ok P)(t:Nat)(x:Value)(lo hi mx:Option Value):
  Step.okV P (Instr.sliceAt t x lo hi mx) (sliceStep T t x (lo.map fun v=>intOf? (some v)) (hi.map fun v=>intOf? (some v)) (mx.map fun v=>intOf? (some v))):=by
 have hint: ∀{v:Value} {n:Int},intOf? (some v)=some n-> ∃k,v= .int k n:=by
  intro v n h
  cases v<;>simp_all [intOf?]
 unfold sliceStep
 split
 ·rename_i s hs
  obtain⟨hu,_⟩:=si_facts hT hs
  split<;>first|trivial|skip
  rename_i a n c
  split<;>first|trivial|skip
  ·rename_i h1 h2 h3
   simp only[Option.map_eq_none_iff]at h1 h2 h3
   subst h1 h2 h3
   intro w
   have e:=sub_zero a s.l.length n c
   simp only[sub,Nat.zero_mul,Nat.sub_zero,Sl.mk.injEq,and_true]at e
   simp[Instr.sliceAt,Instr.slice,run_underlying hu,Instr.sliceBounds,run_sizeOf_si hT hs,e]
  ·rename_i h h1 h2 h3
   simp only[Option.map_eq_none_iff,Option.map_eq_some_iff]at h1 h2 h3
   obtain⟨v,rfl,hv⟩:=h2
   obtain⟨k,rfl⟩:=hint hv
   subst h1 h3
   rintro⟨h0,h1⟩ w
   have e:=sub_zero a s.l.length h.toNat c
   simp only[sub,Nat.zero_mul,Nat.sub_zero,Sl.mk.injEq,and_true]at e
   simp[Instr.sliceAt,Instr.slice,run_underlying hu,Instr.sliceBounds,run_sizeOf_si hT hs,run_bound k h0 h1,e]
  ·rename_i h m h1 h2 h3
   simp only[Option.map_eq_none_iff,Option.map_eq_some_iff]at h1 h2 h3
   obtain⟨v',rfl,hv'⟩:=h2
   obtain⟨k',rfl⟩:=hint hv'
   obtain⟨v'',rfl,hv''⟩:=h3
   obtain⟨k'',rfl⟩:=hint hv''
   subst h1
   rintro⟨h1,h2,h3⟩ w
   have hb':h<=((m.toNat:Nat):Int):=by omega
   have e:Option.map (fun x:Addr=>x.add 0) a=a:=by cases a<;>simp[Addr.add]
   simp[Instr.sliceAt,Instr.slice,run_underlying hu,Instr.sliceBounds,run_sizeOf_si hT hs,run_bound k'' (show 0<=m by omega) h3,run_bound k' h1 hb',e]
  ·rename_i l h1 h2 h3
   simp only[Option.map_eq_none_iff,Option.map_eq_some_iff]at h1 h2 h3
   obtain⟨v,rfl,hv⟩:=h1
   obtain⟨k,rfl⟩:=hint hv
   subst h2 h3
   rintro⟨h0,h1⟩ w
   simp[Instr.sliceAt,Instr.slice,run_underlying hu,Instr.sliceBounds,run_sizeOf_si hT hs,run_bound k h0 h1,sub,S.enc]
  ·rename_i l h h1 h2 h3
   simp only[Option.map_eq_none_iff,Option.map_eq_some_iff]at h1 h2 h3
   obtain⟨v,rfl,hv⟩:=h1
   obtain⟨k,rfl⟩:=hint hv
   obtain⟨v',rfl,hv'⟩:=h2
   obtain⟨k',rfl⟩:=hint hv'
   subst h3
   rintro⟨h0,h1,h2⟩ w
   have hb:l<=((h.toNat:Nat):Int):=by omega
   simp[Instr.sliceAt,Instr.slice,run_underlying hu,Instr.sliceBounds,run_sizeOf_si hT hs,run_bound k' (show 0<=h by omega) h2,run_bound k h0 hb,sub,S.enc]
  ·rename_i l h m h1 h2 h3
   simp only[Option.map_eq_some_iff]at h1 h2 h3
   obtain⟨v,rfl,hv⟩:=h1
   obtain⟨k,rfl⟩:=hint hv
   obtain⟨v',rfl,hv'⟩:=h2
   obtain⟨k',rfl⟩:=hint hv'
   obtain⟨v'',rfl,hv''⟩:=h3
   obtain⟨k'',rfl⟩:=hint hv''
   rintro⟨h0,h1,h2,h3⟩ w
   have hb:l<=((h.toNat:Nat):Int):=by omega
   have hb':h<=((m.toNat:Nat):Int):=by omega
   simp[Instr.sliceAt,Instr.slice,run_underlying hu,Instr.sliceBounds,run_sizeOf_si hT hs,run_bound k'' (show 0<=m by omega) h3,run_bound k' (show 0<=h by omega) hb',run_bound k h0 hb,sub,S.enc]
 ·split<;>first|trivial|skip
  rename_i n el l hl
  obtain⟨⟨e,hu,hs,_⟩,_⟩:=hT.td _ (look_mem hl)
  have hsz: ∀w,(sizeOf e).run P w= .ok el.size w:=by
   intro w
   cases hi:P.info? e with
   |none=>simp[hi]at hs
   |some inf=>simp only[hi,Option.map_some,Option.some.injEq]at hs;simp[sizeOf,typeInfo,hi,hs]
  split<;>first|trivial|skip
  rename_i a
  split<;>first|trivial|skip
  ·rename_i h1 h2 h3
   simp only[Option.map_eq_none_iff]at h1 h2 h3
   subst h1 h2 h3
   intro w
   simp[Instr.sliceAt,run_underlying hu,Instr.sureAddr,Instr.sliceBounds,hsz,Addr.add_zero]
  ·rename_i h h1 h2 h3
   simp only[Option.map_eq_none_iff,Option.map_eq_some_iff]at h1 h2 h3
   obtain⟨v,rfl,hv⟩:=h2
   obtain⟨k,rfl⟩:=hint hv
   subst h1 h3
   rintro⟨h0,h1⟩ w
   simp[Instr.sliceAt,run_underlying hu,Instr.sureAddr,Instr.sliceBounds,hsz,run_bound k h0 h1,Addr.add_zero]
end
section
variable {P : Program} {T : Tab}
theorem isByte_u {t:Nat}(hT:T.ok P)(h:isByte T t=true):P.underlying t=some (.int .u8):=by
 unfold isByte at h
 split at h
 ·rename_i hl
  obtain⟨d,hd,hk⟩:=td_sc hT hl
  rw[hd,kind_int hk]
 ·exact absurd h (by simp)
theorem freeze_new (w:World)(c:Array Value)(e:TypeId):
  (w.drew.alloc (.cells c e)).freeze ⟨w.heap.size,c.size,none⟩ 1=(w.alloc (.cells c e (c.size,c.size+1))).drew:=by
 unfold World.freeze
 simp only[Nat.one_ne_zero,if_false,World.drew,World.alloc]
 congr 1
 apply Array.ext
 ·simp
 ·intro i h1 h2
  simp only[Array.size_modify,Array.size_push]at h1 h2
  by_cases hi:i=w.heap.size
  ·subst hi
   simp[Array.getElem_modify]
  ·have hlt:i<w.heap.size:=by omega
   simp[Array.getElem_modify,Array.getElem_push,hlt,Ne.symm hi]
theorem okV_conv (hT:T.ok P)(src dst:Nat)(x:Value):Step.okV P (convert src dst x) (convStep T src dst x):=by
 unfold convStep
 split<;>first|trivial|skip
 rename_i s0 hl0
 obtain⟨d0,hd0,hk0⟩:=td_sc hT hl0
 split<;>first|trivial|skip
 rename_i s hl
 obtain⟨d,hd,hk⟩:=td_sc hT hl
 split<;>first|trivial|skip
 ·rename_i k
  obtain rfl:=kind_int hk
  unfold convInt
  split<;>first|trivial|skip
  intro w
  simp[convert,run_underlying hd0,run_underlying hd,Conv.intToInt]
 ·unfold convBytes
  split<;>first|trivial|skip
  rename_i b
  split<;>first|trivial|skip
  rename_i si hs
  obtain⟨hu,_⟩:=si_facts hT hs
  refine bif_bad fun hb=>?_
  have he:=isByte_u hT hb
  intro K w hm
  refine⟨_,_,Lib.run_convert_string_bytes w src dst si.e b hd0 hu he,?_⟩
  have hc:=hm (grownCap w b.size 0 si.e) (grownCap_ge w b.size 0 si.e)
  have e:Lib.bytesWorld w si.e b=(w.alloc (.cells (bytesOf b++List.replicate (grownCap w b.size 0 si.e-b.size) (Value.int .u8 0)).toArray si.e (grownCap w b.size 0 si.e,grownCap w b.size 0 si.e+1))).drew:=by
   unfold Lib.bytesWorld
   rw[freeze_new]
   have hs:(Lib.bytesCells w si.e b).size=grownCap w b.size 0 si.e:=by
    have:=grownCap_ge w b.size 0 si.e
    unfold Lib.bytesCells
    rw[Array.size_append,Array.size_map,Array.size_replicate]
    show b.size+_=_
    omega
   rw[hs]
   congr 3
   apply Array.ext'
   simp[Lib.bytesCells,bytesOf]
  rw[e]
  exact hc
 ·obtain rfl:=kind_str hk
  unfold convStr
  split<;>first|trivial|skip
  rename_i a n c
  split<;>first|trivial|skip
  rename_i si hs
  obtain⟨hu,_⟩:=si_facts hT hs
  refine bif_bad fun hb=>?_
  have he:=isByte_u hT hb
  intro s w hr
  cases a with
  |none=>
   have h0:s= .empty:=hr
   subst h0
   exact run_convert_bytes_nil w src si.e hu he n c dst hd
  | some a =>
   obtain⟨hn,hr⟩:=hr
   rw[run_convert_bytes_string w src dst si.e _ n c hu he hd]
   have hl:(loadCells a n).run P w= .ok (bytesOf s).toArray w:=by
    have:=run_loadCells_list (P:=P) w a (bytesOf s) hr
    simpa [bytesOf,hn]using this
   have hm:(bytesOf s)=(s.data.toList.map fun b=>(b.toNat:Int)).map (Value.int .u8):=by simp[bytesOf]
   rw[hm]at hl
   rw[run_bytesToString w _ n c _ hl,foldl_push_bytes]
   simp only[List.map_map,Function.comp_def,Int.toNat_natCast,UInt8.ofNat_toNat,List.map_id']
   cases s
   simp[ByteArray.empty,ByteArray.emptyWithCapacity]
   rfl
theorem fold_set (off:Nat): ∀(vs:List Value) (k:Nat) (cells:Array Value),off+k+vs.length<=cells.size->
  ((vs.zipIdx k).foldl (fun(cs:Array Value) (x:Value×Nat)=>cs.setIfInBounds (off+x.2) x.1) cells).toList=cells.toList.take (off+k)++vs++cells.toList.drop (off+k+vs.length)
 | [],k,cells,_=>by simp
 | v :: vs, k, cells, h => by
  simp only[List.length_cons]at h
  simp only[List.zipIdx_cons,List.foldl_cons]
  rw[fold_set off vs (k+1) _ (by simp;omega)]
  simp only[Array.toList_setIfInBounds,List.length_cons]
  have hk:off+k<cells.toList.length:=by simp;omega
  have e1:(cells.toList.set (off+k) v).take (off+(k+1))=cells.toList.take (off+k)++[v]:=by
   rw[show off+(k+1)=off+k+1 by omega,List.take_succ_eq_append_getElem (by simpa using hk),List.take_set_of_le om]
   simp
  have e2:(cells.toList.set (off+k) v).drop (off+(k+1)+vs.length)=cells.toList.drop (off+k+(vs.length+1)):=by
   rw[List.drop_set_of_lt om]
   congr 1
   omega
  rw[e1,e2]
  simp
theorem cells_part {ty:Ty}{v:Value}(h:isVeiled ty=true->v.oneCell'=true):v.cells.toList=partCells ty v:=by
 have one:v.oneCell'=true->v.cells.toList=[v]:=by intro h;cases v<;>simp_all [Value.oneCell',Value.cells]
 unfold partCells
 split
 ·exact one (h rfl)
 ·exact one (h rfl)
 ·rfl
theorem fill_ok {place:Nat->Option (Nat×Nat)}{placeT:Nat->Option (Nat×Ty)}(hp: ∀i off ty,placeT i=some (off,ty)->place i=some (off,ty.size)):
  ∀(parts:List (Nat×Value)) (cells:Array Value) (ones:List Value) (out:List Value) (ones':List Value),
   fillT placeT cells.toList ones (parts.map fun x=>(x.1,some x.2))=some (out,ones')->Ones ones'->
   Instr.fill place cells parts=some out.toArray/\Ones ones
 | [],cells,ones,out,ones',h,ho=>by
  simp only[List.map_nil,fillT,Option.some.injEq,Prod.mk.injEq]at h
  obtain⟨rfl,rfl⟩:=h
  exact⟨by simp[Instr.fill],ho⟩
 | (i, v) :: rest, cells, ones, out, ones', h, ho => by
  simp only[List.map_cons,fillT]at h
  cases hpl:placeT i with
  |none=>simp[hpl]at h
  | some x =>
   obtain⟨off,ty⟩:=x
   simp only[hpl]at h
   cases hc:(Nat.beq (partCells ty v).length ty.size&&Nat.ble (off+ty.size) cells.toList.length)with
   |false=>rw[hc]at h;simp at h
   | true =>
    simp only[hc,cond_true]at h
    simp only[Bool.and_eq_true]at hc
    have h1:=Nat.eq_of_beq_eq_true hc.1
    have h2:=Nat.le_of_ble_eq_true hc.2
    have hsz:(List.take off cells.toList++partCells ty v++List.drop (off+ty.size) cells.toList)=((List.take off cells.toList++partCells ty v++List.drop (off+ty.size) cells.toList).toArray).toList:=by simp
    rw[hsz]at h
    obtain⟨hf,hones⟩:=fill_ok hp rest _ _ _ _ h ho
    have hv:isVeiled ty=true->v.oneCell'=true:=by
     intro hv
     rw[hv,cond_true]at hones
     exact hones v (by simp)
    have hcp:=cells_part hv
    have hlen:v.cells.size=ty.size:=by rw[<-Array.length_toList,hcp,h1]
    refine⟨?_,?_⟩
    ·have hset:=fold_set off v.cells.toList 0 cells (by rw[Array.length_toList,hlen];simpa using h2)
     simp only[Instr.fill,hp i off ty hpl,hlen,ne_eq,not_true_eq_false,false_or,show¬(off+ty.size>cells.size)from by simpa using h2,if_false]
     rw[<-hf]
     rw[if_neg (by simp)]
     congr 1
     apply Array.ext'
     rw[<-Array.foldl_toList,Array.toList_zipIdx,hset]
     simp[hcp,h1]
    ·intro u hu
     apply hones
     cases isVeiled ty<;>simp[hu]
end
section
variable {P : Program} {T : Tab}
theorem run_zero_td {t:Nat}{d:TD}{ty:Ty}(h:TDok P t d)(hd:d.ty=some ty)(w:World): ∃z,(zeroValue t).run P w= .ok z w/\z.cells.toList=zeros ty:=by
 obtain⟨i,hi,_,z,hz,hc,_⟩:=info_of_ty h hd
 refine⟨z,by simp[zeroValue,typeInfo,hi,hz],?_⟩
 rw[hc]
 cases ty<;>rfl
theorem withOnes_okV {f:Sem Value}{ones:List Value}{v:Value}(h:Ones ones-> ∀w,f.run P w= .ok v w):Step.okV P f (withOnes ones v):=by
 cases ones with
 |nil=>exact h (by intro v hv;cases hv)
 |cons o os=>exact h
theorem mapM_places {fds:Array Field}{w}(sz:Field->Nat)(h: ∀f∈fds,(sizeOf f.type).run P w= .ok (sz f) w):
  (fds.mapM (m:=Sem) fun f=>do pure (f.offset,<-sizeOf f.type)).run P w= .ok (fds.map fun f=>(f.offset,sz f)) w:=by
 have key: ∀(l:List Field),(∀f∈l,(sizeOf f.type).run P w= .ok (sz f) w)->(l.mapM (m:=Sem) fun f=>do pure (f.offset,<-sizeOf f.type)).run P w= .ok (l.map fun f=>(f.offset,sz f)) w:=by
  intro l
  induction l with
  |nil=>intro _;simp
  |cons f l ih=>
   intro hl
   simp only[List.mapM_cons,Sem.run_bind,hl f (by simp),Result.andThen_ok,Sem.run_pure,ih fun g hg=>hl g (by simp[hg])]
   rfl
 have e:fds.mapM (m:=Sem) (fun f=>do pure (f.offset,<-sizeOf f.type))=(do let l<-fds.toList.mapM (m:=Sem) (fun f=>do pure (f.offset,<-sizeOf f.type));pure l.toArray):=by
  rw[Array.mapM_eq_mapM_toList]
  rfl
 rw[e,Sem.run_bind,key fds.toList (fun f hf=>h f (by simpa using hf)),Result.andThen_ok,Sem.run_pure]
 congr 1
 exact Array.ext' (by simp)
theorem okV_build (hT:T.ok P)(t:Nat)(parts:List (Nat×Value)):Step.okV P (Instr.build t parts.toArray) (buildStep T t (parts.map fun x=>(x.1,some x.2))):=by
 unfold buildStep
 split<;>first|trivial|skip
 ·rename_i l fs hl
  have hd:=hT.td _ (look_mem hl)
  split<;>first|trivial|skip
  rename_i cells ones hf
  refine withOnes_okV fun ho w=>?_
  obtain⟨z,hz,hzc⟩:=run_zero_td hd rfl w
  have hzc:z.cells.toList=l.map S.zero:=hzc
  rw[<-hzc]at hf
  have h1:=hd.1
  unfold fieldsOf at h1
  split at h1
  case h_2=>simp at h1
  rename_i fds hu
  rw[Option.some.injEq]at h1
  have hsz: ∀f∈fds,(sizeOf f.type).run P w= .ok (((P.info? f.type).map (·.size)).getD 0) w:=by
   intro f hf'
   obtain⟨j,hj⟩:=Array.getElem?_of_mem hf'
   have h2:=congrArg (fun l:List (Nat×Option Nat×Option Bool)=>l[j]?) h1
   simp only[List.getElem?_map,Array.getElem?_toList,hj,Option.map_some]at h2
   cases hfs:fs[j]? with
   |none=>simp[hfs]at h2
   |some x=>
    simp only[hfs,Option.map_some,Option.some.injEq,Prod.mk.injEq]at h2
    cases hi:P.info? f.type with
    |none=>simp[hi]at h2
    |some i=>simp[sizeOf,typeInfo,hi]
  have hpl: ∀(i off:Nat) (ty:Ty),fs[i]? =some (off,ty)->(fds.map fun f=>(f.offset,((P.info? f.type).map (·.size)).getD 0))[i]? =some (off,ty.size):=by
   intro i off ty hi
   obtain⟨fds',fd,inf,u,hu',hfd,ho,hinf,hs,_,_⟩:=td_st hT hl hi
   rw[hu]at hu'
   simp only[Option.some.injEq,TypeDesc.struct.injEq]at hu'
   subst hu'
   simp[hfd,ho,hinf,hs]
  obtain⟨hfill,_⟩:=fill_ok hpl parts z.cells [] cells ones hf ho
  simp only[Instr.build,Sem.run_bind,hz,Result.andThen_ok,run_underlying hu,mapM_places _ hsz,hfill,Sem.run_pure]
 ·rename_i n el l hl
  have hd:=hT.td _ (look_mem hl)
  split<;>first|trivial|skip
  rename_i cells ones hf
  refine withOnes_okV fun ho w=>?_
  obtain⟨z,hz,hzc⟩:=run_zero_td hd rfl w
  have hzc:z.cells.toList=l.map S.zero:=hzc
  rw[<-hzc]at hf
  obtain⟨⟨e,hu,hs,_⟩,_⟩:=hd
  have hsz:(sizeOf e).run P w= .ok el.size w:=by
   cases hi:P.info? e with
   |none=>simp[hi]at hs
   |some inf=>simp only[hi,Option.map_some,Option.some.injEq]at hs;simp[sizeOf,typeInfo,hi,hs]
  have hpl: ∀(i off:Nat) (ty:Ty),(fun i:Nat=>some (i*el.size,el)) i=some (off,ty)->(fun i:Nat=>some (i*el.size,el.size)) i=some (off,ty.size):=by
   intro i off ty hi
   simp only[Option.some.injEq,Prod.mk.injEq]at hi|-
   obtain⟨rfl,rfl⟩:=hi
   exact⟨rfl,rfl⟩
  obtain⟨hfill,_⟩:=fill_ok hpl parts z.cells [] cells ones hf ho
  simp[Instr.build,hz,run_underlying hu,hsz,hfill]
theorem zrep_length (l:List S)(n:Nat):(zrep l n).length=n*l.length:=by simp[zrep,List.length_flatten,List.map_replicate,List.sum_replicate_nat]
theorem zrep_get (l:List S): ∀(n i:Nat),i<n*l.length->(zrep l n)[i]? =(l.map S.zero)[i%l.length]?
 |0,i,h=>by simp at h
 | n + 1, i, h => by
  have e:zrep l (n+1)=l.map S.zero++zrep l n:=by simp[zrep,List.replicate_succ]
  rw[e]
  by_cases hi:i<l.length
  ·rw[List.getElem?_append_left (by simpa using hi),Nat.mod_eq_of_lt hi]
  ·have hge:l.length<=i:=by omega
   rw[List.getElem?_append_right (by simpa using hge),List.length_map,zrep_get l n (i-l.length) (by rw[Nat.add_mul]at h;omega)]
   congr 1
   exact(Nat.mod_eq_sub_mod hge).symm
theorem made_zrep {z:Array Value}{l:List S}(hz:z.toList=l.map S.zero)(n:Nat):(madeCells z (n*l.length))=(zrep l n).toArray:=by
 have hzs:z.size=l.length:=by rw[<-Array.length_toList,hz];simp
 apply Array.ext_getElem?
 intro i
 by_cases hi:i<n*l.length
 ·have hpos:0<l.length:=by
   rcases Nat.eq_zero_or_pos l.length with h|h
   ·rw[h]at hi;simp at hi
   ·exact h
  have hm:i%l.length<l.length:=Nat.mod_lt _ hpos
  simp only[madeCells,Array.getElem?_map,List.getElem?_toArray,zrep_get l n i hi,hzs]
  rw[Array.getElem?_range,if_pos hi,Option.map_some,getElem!_pos z _ om,<-Array.getElem_toList]
  rw[<-hz,List.getElem?_eq_getElem (by simp;omega)]
 ·rw[Array.getElem?_eq_none (by simp[madeCells];omega),List.getElem?_toArray,List.getElem?_eq_none (by rw[zrep_length];omega)]
theorem okV_buildSlice (hT:T.ok P)(t n:Nat)(parts:List (Nat×Value)):Step.okV P (Instr.buildSlice t n parts.toArray) (buildSliceStep T t n (parts.map fun x=>(x.1,some x.2))):=by
 unfold buildSliceStep
 split<;>first|trivial|skip
 rename_i s hs
 split<;>first|trivial|skip
 rename_i ty hty
 refine bif_bad fun hb=>?_
 have hb:=Nat.le_of_ble_eq_true hb
 obtain⟨hu,i,z,hi,hz,hzc,hsz,_⟩:=si_facts hT hs
 have hts:ty.size=s.l.length:=by
  obtain⟨d,hd,hdt⟩:=hT.ty hty
  obtain⟨j,hj,hjs,_⟩:=info_of_ty hd hdt
  rw[hi,Option.some.injEq]at hj
  subst hj
  rw[<-hjs,hsz]
 have key: ∀(cells ones:List Value),fillT (fun i=>some (i*ty.size,ty)) (zrep s.l n) [] (parts.map fun x=>(x.1,some x.2))=some (cells,ones)->Ones ones->
   ∀w,(Instr.buildSlice t n parts.toArray).run P w= .ok (.slice (some ⟨w.heap.size,0,none⟩) n n) (w.alloc (.cells cells.toArray s.e)):=by
  intro cells ones hf ho w
  have hpl: ∀(i off:Nat) (ty':Ty),(fun i:Nat=>some (i*ty.size,ty)) i=some (off,ty')->(fun i:Nat=>some (i*s.l.length,s.l.length)) i=some (off,ty'.size):=by
   intro i off ty' hi
   simp only[Option.some.injEq,Prod.mk.injEq]at hi|-
   obtain⟨rfl,rfl⟩:=hi
   exact⟨by rw[hts],hts.symm⟩
  have hf':fillT (fun i=>some (i*ty.size,ty)) ((zrep s.l n).toArray).toList [] (parts.map fun x=>(x.1,some x.2))=some (cells,ones):=by simpa using hf
  obtain⟨hfill,_⟩:=fill_ok hpl parts (zrep s.l n).toArray [] cells ones hf' ho
  rw[<-made_zrep hzc n]at hfill
  have hno: ¬(2^24<n*i.size):=by rw[hsz,<-hts];omega
  by_cases h0:n*i.size=0
  ·have hm:madeCells z.cells (n*s.l.length)= #[]:=by
    apply Array.eq_empty_of_size_eq_zero
    rw[size_madeCells,<-hsz];exact h0
   rw[hm]at hfill
   have h0':n*s.l.length=0:=by rw[<-hsz];exact h0
   simp[Instr.buildSlice,run_underlying hu,sizeOf,typeInfo,hi,hsz,h0',hfill,newRow,Array.range_zero']
  ·have h0': ¬n*s.l.length=0:=by rw[<-hsz];exact h0
   rw[hsz]at hno
   simp only[madeCells]at hfill
   simp only[Instr.buildSlice,Sem.run_bind,run_underlying hu,Result.andThen_ok,sizeOf,typeInfo,run_program,hi,Sem.run_pure,hsz]
   rw[if_neg hno,if_neg h0']
   simp[zeroValue,typeInfo,hi,hz,hfill,newRow]
 split<;>first|trivial|skip
 ·rename_i cells hf
  intro K w hm
  exact⟨_,_,key cells [] hf (by intro v hv;cases hv) w,hm⟩
 ·rename_i cells ones _ hf
  rintro K w ⟨ho,hm⟩
  exact⟨_,_,key cells _ hf ho w,hm⟩
theorem okV_alloc (hT:T.ok P)(t:Nat):Step.okV P (Instr.alloc t true (.tuple #[])) (allocStep T t):=by
 unfold allocStep
 split<;>first|trivial|skip
 rename_i ty hty
 intro K w hm
 obtain⟨d,hd,hdt⟩:=hT.ty hty
 obtain⟨z,hz,hzc⟩:=run_zero_td hd hdt w
 refine⟨.pointer (some ⟨w.heap.size,0,none⟩),w.alloc (.cells z.cells t),by simp[Instr.alloc,hz,newVar,newRow],?_⟩
 have:z.cells=(zeros ty).toArray:=by apply Array.ext';simp[hzc]
 rw[this]
 exact hm
theorem okV_box (t:Nat)(v:Value):Step.okV P (Instr.box t v) (boxStep T t v):=by
 unfold boxStep
 split<;>first|trivial|skip
 cases isVeiled _ with
 |true=>trivial
 |false=>
  intro K w hm
  refine⟨.pointer (some ⟨w.heap.size,0,none⟩),w.alloc (.cells v.cells t),by simp[Instr.box,newVar,newRow],?_⟩
  have hm:K (.pointer (some ⟨w.heap.size,0,none⟩)) (w.alloc (.cells v.cells.toList.toArray t)):=hm
  simpa using hm
theorem run_make_si {t:Nat}{s:SI}(hT:T.ok P)(hs:look T.si t=some s)(kl kc:IntKind){l c:Int}(h:0<=l/\l<=c/\(s.by_:Int)*c<=281474976710656/\c<=9223372036854775807)(w:World):
  (Instr.makeSlice t (.int kl l) (.int kc c)).run P w= .ok (.slice (some ⟨w.heap.size,0,none⟩) l.toNat c.toNat) (w.alloc (.cells (zrep s.l c.toNat).toArray s.e)):=by
 obtain⟨hu,i,z,hi,hz,hzc,hsz,hb⟩:=si_facts hT hs
 rw[run_make w t s.e i z hu hi hz kl kc l c h.1 h.2.1 (by rw[hb];exact h.2.2.1) h.2.2.2,hsz,made_zrep hzc]
end
section
variable {P : Program} {T : Tab}
theorem run_first {a:Option Addr}{n c k sz:Nat}{vs:List Value}{w}(h:RdS w a (k*sz) vs):(Builtin.firstCells sz k (.slice a n c)).run P w= .ok vs.toArray w:=by
 cases a with
 |none=>
  have h:vs=[]:=h
  subst h
  simp[Builtin.firstCells]
 |some a=>
  obtain⟨hl,hr⟩:=h
  have:=run_loadCells_list (P:=P) w a vs hr
  rw[hl]at this
  simpa [Builtin.firstCells]using this
theorem growBy_le (need:Nat): ∀(r c:Nat),c<=2*need+1024->Builtin.growBy need r c<=2*need+1024
 |0,c,h=>h
 |r+1,c,h=>by
  unfold Builtin.growBy
  split
  ·exact h
  ·exact growBy_le need r _ om
theorem nextcap_le {need old:Nat}(h:old<need):Builtin.nextslicecap need old<=2*need+1024:=by
 unfold Builtin.nextslicecap
 split
 ·omega
 ·split
  ·omega
  ·exact growBy_le need 4 old om
theorem zeroCells_zrep {z:Array Value}{l:List S}(hz:z.toList=l.map S.zero)(n:Nat):Builtin.zeroCells z n=(zrep l n).toArray:=by
 have hzs:z.size=l.length:=by rw[<-Array.length_toList,hz];simp
 rw[<-made_zrep hz n]
 unfold Builtin.zeroCells madeCells
 rw[hzs]
theorem okV_append (hT:T.ok P){t t' ty:Nat}{s s':SI}(hs:look T.si t=some s)(hs':look T.si t'=some s')(a a':Option Addr)(n c n' c':Nat)(K:Value->WP)(w:World)
  (hm:AppP s ⟨a,n,c⟩ ⟨a',n',c'⟩ (slOf K) w): ∃v w',(Builtin.append_ #[t,t'] ty #[.slice a n c,.slice a' n' c']).run P w= .ok v w'/\K v w':=by
 obtain⟨hu,i,z,hi,hz,hzc,hsz,hb⟩:=si_facts hT hs
 obtain⟨hu',_⟩:=si_facts hT hs'
 obtain⟨new,hnew,hroom,hgrow⟩:=hm
 simp only at hnew hroom hgrow
 by_cases hn:n+n'<=c
 ·obtain⟨hst,hk⟩:=hroom hn
  refine⟨_,_,?_,hk⟩
  cases a with
  |none=>
   simp[Builtin.append_,run_underlying hu,run_underlying hu',sizeOf,typeInfo,hi,hsz,Builtin.lenOf,hn,run_first hnew,S.enc,stS]
  |some a=>
   have hst:StOk w (a.add (n*s.l.length)) new 0:=hst
   simp[Builtin.append_,run_underlying hu,run_underlying hu',sizeOf,typeInfo,hi,hsz,Builtin.lenOf,hn,run_first hnew,S.enc,stS,run_storeCells_ok _ new 0 w hst]
 ·have hlt:c<n+n':=by omega
  obtain⟨hb1,hb2,old,hold,hk⟩:=hgrow hlt
  have hk:=hk (grownCap w (n+n') c s.e) (grownCap_ge w (n+n') c s.e)
  refine⟨_,_,?_,hk⟩
  have hcap: ¬(2^48<Builtin.nextslicecap (n+n') c*i.bytes):=by
   have h1:=Nat.mul_le_mul_right s.by_ (nextcap_le hlt)
   rw[hb]
   omega
  have h63: ¬((n+n':Nat):Int)>IntKind.i64.max:=by simp[IntKind.max,IntKind.signed,IntKind.bits];omega
  have hfo:(Builtin.firstCells s.l.length n (.slice a n c)).run P w.drew= .ok old.toArray w.drew:=run_first (w:=w.drew) hold
  have hfn:(Builtin.firstCells s.l.length n' (.slice a' n' c')).run P w.drew= .ok new.toArray w.drew:=run_first (w:=w.drew) hnew
  have hcap': ¬(281474976710656<Builtin.nextslicecap (n+n') c*i.bytes):=by simpa using hcap
  simp only[gt_iff_lt,Int.not_lt]at h63
  simp[Builtin.append_,run_underlying hu,run_underlying hu',sizeOf,typeInfo,hi,hsz,Builtin.lenOf,hn,hcap',Int.not_lt.2 h63,Question.forced,hfo,hfn,zeroValue,hz,newRow,S.enc,grownCap,zeroCells_zrep hzc]
  rw[if_neg om]
  rfl
theorem okV_copy (hT:T.ok P){t t' ty:Nat}{s:SI}(hs:look T.si t=some s)(a a':Option Addr)(n c n' c':Nat)(K:Value->WP)(w:World)
  (hm:CopyP s ⟨a,n,c⟩ ⟨a',n',c'⟩ (fun x=>K (.int .i64 x)) w): ∃v w',(Builtin.copy_ #[t,t'] ty #[.slice a n c,.slice a' n' c']).run P w= .ok v w'/\K v w':=by
 obtain⟨hu,i,z,hi,hz,hzc,hsz,hb⟩:=si_facts hT hs
 obtain⟨vs,hr,hst,hk⟩:=hm
 simp only at hr hst hk
 refine⟨_,_,?_,hk⟩
 cases a with
 |none=>simp[Builtin.copy_,run_underlying hu,sizeOf,typeInfo,hi,hsz,Builtin.lenOf,run_first hr,stS,goInt]
 |some a=>
  have hst:StOk w (a.add 0) vs 0:=hst
  rw[Addr.add_zero]at hst
  simp[Builtin.copy_,run_underlying hu,sizeOf,typeInfo,hi,hsz,Builtin.lenOf,run_first hr,stS,goInt,run_storeCells_ok _ vs 0 w hst,Addr.add_zero]
theorem upon_uponV {r:Result Next}{K:Value->WP}(h:upon P r K):uponV P r K:=by
 cases r with
 |ok n w=>cases n<;>first|exact h|exact h.elim
 |halt x w=>exact h.elim
theorem upon_mono {r:Result Next}{K K':Value->WP}(h:upon P r K)(hk: ∀v w,K v w->K' v w):upon P r K':=by
 cases r with
 | ok n w =>
  cases n<;>simp only[upon]at h|- <;>first
   |exact hk _ _ h
   |exact Calls.mono h (fun e w' he=>by cases e<;>first|exact hk _ _ he|exact he)
   |exact Rows.mono h (fun _ _ he=>hk _ _ he)
 |halt x w=>exact h.elim
theorem uponV_mono {r:Result Next}{K K':Value->WP}(h:uponV P r K)(hk: ∀v w,K v w->K' v w):uponV P r K':=by
 cases r with
 | ok n w =>
  cases n<;>simp only[uponV]at h|- <;>first
   |exact hk _ _ h
   |exact Calls.mono h (fun e w' he=>by cases e<;>first|exact hk _ _ he|exact he)
   |exact Rows.mono h (fun _ _ he=>hk _ _ he)
 |halt x w=>exact h.elim
theorem evs_eval {n:Nat}{e:Env}{a:Act}(h:Agree n e a): ∀{xs:List Operand} {vs:List Value},evs e xs=some vs->xs.map a.eval=vs
 | [],vs,hv=>by simp only[evs,Option.some.injEq]at hv;subst hv;rfl
 | x :: xs, vs, hv => by
  simp only[evs]at hv
  cases hx:e.ev x with
  |none=>simp[hx]at hv
  | some v =>
   cases hxs:evs e xs with
   |none=>simp[hx,hxs]at hv
   |some us=>
    simp only[hx,hxs,Option.some.injEq]at hv
    subst hv
    simp[h.ev hx,evs_eval h hxs]
theorem call_ok (hT:T.ok P){n:Nat}{e:Env}{a:Act}(hag:Agree n e a){o:Oper}{c:Call}(ho:o.op= .call c):Step.ok P o a (callStep P T e c o.type):=by
 unfold callStep
 split<;>first|trivial|skip
 rename_i args hargs
 have hevs:=evs_eval hag hargs
 have hmap:c.args.map a.eval=args.toArray:=by apply Array.ext';simp[<-hevs]
 have hex:execOp a.eval o=(do let d<-resolve a.eval c o.type;invoke d.target d.args):=by unfold execOp;rw[ho]
 split
 ·rename_i f hc
  split<;>first|trivial|skip
  rename_i R hR
  intro K w hm
  rw[hex]
  simp only[resolve,hmap,hc,Act.eval,Deferred.ofValue,Sem.run_bind,Sem.run_pure,Result.andThen_ok,invoke]
  have:=upon_uponV hm
  rw[show(#[]++args.toArray++ #[]:Array Value)=args.toArray by simp]
  exact uponV_mono this (by rintro v w' ⟨_,x,rfl,hk⟩;exact hk)
 ·rename_i x _ hc
  split<;>first|trivial|skip
  rename_i v R hv hR
  intro K w hm
  rw[hex]
  have hev:=hag.ev hv
  simp only[resolve,hmap,hc,hev]
  have h2:=upon_uponV hm
  have h3:uponV P ((do let d<-Deferred.ofValue v args.toArray;invoke d.target d.args).run P w) K:=uponV_mono h2 (by rintro v w' ⟨_,x,rfl,hk⟩;exact hk)
  exact h3
 ·rename_i x m hc
  split<;>first|trivial|skip
  rename_i v R hv hR
  intro K w hm
  rw[hex]
  have hev:=hag.ev hv
  simp only[resolve,hmap,hc,hev,Sem.run_bind,Sem.run_pure,Result.andThen_ok,invoke]
  have h2:=upon_uponV hm
  have h3:uponV P ((callMethod v m args.toArray).run P w) K:=uponV_mono h2 (by rintro v w' ⟨_,x,rfl,hk⟩;exact hk)
  simpa using h3
 ·rename_i b hc
  have hb: ∀w,(execOp a.eval o).run P w=(builtin b c.argTypes o.type (c.args.map fun| .const _=>true|_=>false) args.toArray).run P w:=by
   intro w
   rw[hex]
   simp only[resolve,hmap,hc,Sem.run_bind,Sem.run_pure,Result.andThen_ok,invoke]
   rfl
  have hat: ∀{l:List TypeId},c.argTypes.toList=l->c.argTypes=l.toArray:=by intro l h;apply Array.ext';simpa using h
  split<;>first|trivial|skip
  ·split<;>first|trivial|skip
   ·rename_i s t _ hts
    split<;>first|trivial|skip
    rename_i hl
    obtain⟨d,hd,hk⟩:=td_sc hT hl
    obtain rfl:=kind_str hk
    intro w
    rw[hb,hat hts]
    simp[builtin,Builtin.len_,run_underlying hd,goInt]
   ·rename_i p n k t _ hts
    split<;>first|trivial|skip
    rename_i si hl
    obtain⟨hu,_⟩:=si_facts hT hl
    intro w
    rw[hb,hat hts]
    simp[builtin,Builtin.len_,run_underlying hu,goInt]
  ·split<;>first|trivial|skip
   rename_i p n k t _ hts
   split<;>first|trivial|skip
   rename_i si hl
   obtain⟨hu,_⟩:=si_facts hT hl
   intro w
   rw[hb,hat hts]
   simp[builtin,Builtin.cap_,run_underlying hu,goInt]
  ·split<;>first|trivial|skip
   rename_i t t' _ hts
   split<;>first|trivial|skip
   rename_i si si' hl hl'
   intro K w hm
   rw[hb,hat hts]
   obtain⟨v,w',hr,hk⟩:=okV_append hT (ty:=o.type) hl hl' _ _ _ _ _ _ K w hm
   simp only[builtin,Sem.run_bind,hr,Result.andThen_ok,Sem.run_pure]
   exact hk
  ·split<;>first|trivial|skip
   rename_i t t' hts
   split<;>first|trivial|skip
   rename_i si hl
   intro K w hm
   rw[hb,hat hts]
   obtain⟨v,w',hr,hk⟩:=okV_copy hT (ty:=o.type) (t':=t') hl _ _ _ _ _ _ K w hm
   simp only[builtin,Sem.run_bind,hr,Result.andThen_ok,Sem.run_pure]
   exact hk
end
structure Ctx (P:Program)(T:Tab):Prop where
 ok:T.ok P
 eq:EqOk P T
section
variable {P : Program} {T : Tab} {n : Nat} {e : Env} {a : Act}
theorem pevs_eval (h:Agree n e a){xs:List (Nat×Operand)}(hb: ∀x∈pevs e xs,x.2.isSome=true):pevs e xs=(xs.map fun(i,x)=>(i,a.eval x)).map fun x=>(x.1,some x.2):=by
 simp only[pevs,List.map_map]
 apply List.map_congr_left
 rintro⟨i,x⟩ hx
 have:=hb (i,e.ev x) (List.mem_map.2 ⟨(i,x),hx,rfl⟩)
 cases hv:e.ev x with
 |none=>simp[hv]at this
 |some v=>simp[h.ev hv]
theorem fillT_some {place:Nat->Option (Nat×Ty)}: ∀{parts:List (Nat×Option Value)} {cells ones:List Value} {r:List Value×List Value},fillT place cells ones parts=some r-> ∀x∈parts,x.2.isSome=true
 | [],_,_,_,_,x,hx=>by cases hx
 |(i,none)::rest,cells,ones,r,h,x,hx=>by simp[fillT]at h
 | (i, some v) :: rest, cells, ones, r, h, x, hx => by
  rcases List.mem_cons.1 hx with rfl|hx
  ·rfl
  ·simp only[fillT]at h
   split at h
   ·cases hc:(Nat.beq (partCells _ v).length (Ty.size _)&&Nat.ble (_+Ty.size _) cells.length)with
    |false=>rw[hc]at h;simp at h
    |true=>rw[hc]at h;exact fillT_some h x hx
   ·simp at h
theorem okV_bad_or {f:Sem Value}{s:Step}(h:s≠ .bad->Step.okV P f s):Step.okV P f s:=by
 by_cases hs:s= .bad
 ·subst hs;trivial
 ·exact h hs
theorem stepOf_ok (hC:Ctx P T)(hag:Agree n e a)(o:Oper):Step.ok P o a (stepOf P T e o):=by
 have hT:=hC.ok
 unfold stepOf
 split<;>first|trivial|skip
 case h_1 x ho=>exact optv_ok fun v hv w=>by simp[execOp,ho,hag.ev hv]
 case h_2 x ho=>exact optv_ok fun v hv w=>by simp[execOp,ho,hag.ev hv]
 case h_3 c x y ho=>
  split<;>first|trivial|skip
  rename_i t hc
  refine optv_ok fun v hv w=>?_
  cases t with
  |true=>simp only[cond_true]at hv;simp[execOp,ho,hag.ev hc,asBool,hag.ev hv]
  |false=>simp only[cond_false]at hv;simp[execOp,ho,hag.ev hc,asBool,hag.ev hv]
 case h_4 x ho=>
  split<;>split<;>first|trivial|skip
  ·rename_i p hx
   intro b hb w
   subst hb
   simp[execOp,ho,hag.ev hx]
  ·rename_i v hx
   intro hv w
   simp only[execOp,ho,hag.ev hx]
   cases v with
   |pointer p=>cases p<;>first|exact hv.elim|rfl
   |nilIface=>exact hv.elim
   |nilFunc=>exact hv.elim
   |func f g h=>cases f<;>first|exact hv.elim|rfl
   |_=>rfl
 case h_5 s x f ho=>
  split<;>first|trivial|skip
  rename_i b l fs hx hl
  split<;>first|trivial|skip
  rename_i off ty hf
  refine Step.ok_of_okV (f:=Instr.fieldAt s (a.eval x) f) (by simp[execOp,ho]) ?_
  cases hz:Nat.beq ty.size 0 with
  |true=>trivial
  |false=>intro w;rw[hag.ev hx];exact okV_fieldAddr hT hl hf hz w
 case h_6 t x f ho=>
  split<;>first|trivial|skip
  rename_i cs l fs hx hl
  refine Step.ok_of_okV (f:=Instr.field t (a.eval x) f) (by simp[execOp,ho]) ?_
  rw[hag.ev hx]
  split<;>first|trivial|skip
  ·rename_i off s hf
   obtain⟨fds,fd,i,u,hu,hfd,hoff,hi,hs,hu',hg⟩:=td_st hT hl hf
   cases hc:cs.toList[off]? with
   |none=>trivial
   |some v=>
    intro w
    have hc':cs[off]? =some v:=by simpa using hc
    cases u<;>simp_all [Instr.field,run_underlying hu,asAgg,part,isAgg,run_underlying hu',aggD,Ty.isAgg]
  ·rename_i off l' hf
   obtain⟨fds,fd,i,u,hu,hfd,hoff,hi,hs,hu',hg⟩:=td_st hT hl hf
   intro w
   have e1:cs.extract off (off+l'.length)=((cs.toList.drop off).take l'.length).toArray:=by
    apply Array.ext';simp[Array.toList_extract,List.extract_eq_take_drop]
   have hs':i.size=l'.length:=hs
   cases u<;>simp_all [Instr.field,run_underlying hu,asAgg,part,isAgg,run_underlying hu',aggD,Ty.isAgg,sizeOf,typeInfo]
 case h_7 t x ho=>
  split<;>first|trivial|skip
  rename_i b ty hx hty
  intro y w hy
  simp[execOp,ho,hag.ev hx,Instr.loadAt,Instr.sureAddr,run_loadVar hT hty hy]
 case h_8 t x y ho=>
  split<;>first|trivial|skip
  rename_i b ty v hx hty hy
  intro K w hm
  obtain⟨w',hr,hk⟩:=run_storeVar hT hty hm
  have:(execOp a.eval o).run P w= .ok .skip w':=by simp[execOp,ho,hag.ev hx,hag.ev hy,Instr.storeAt,Instr.sureAddr,hr]
  rw[this]
  exact hk
 case h_9 op t x y yt ho=>
  split<;>first|trivial|skip
  rename_i u v hx hy
  refine Step.ok_of_okV (f:=do eqGuard op t x y (a.eval x) (a.eval y);binOp op t (a.eval x) (a.eval y)) (by simp only[execOp,ho]) ?_
  rw[hag.ev hx,hag.ev hy]
  refine okV_bin hT hC.eq op t x y u v fun c hc=>?_
  subst hc
  simp only[Env.ev,Option.some.injEq]at hy
  exact hy.symm
 case h_10 op t x ho=>
  split<;>first|trivial|skip
  ·rename_i b hx
   intro w
   simp[execOp,ho,hag.ev hx,Op.unary]
  ·rename_i k m hx
   intro w
   simp[execOp,ho,hag.ev hx,Op.unary,Op.intArith]
 case h_11 s d x ho=>
  split<;>first|trivial|skip
  rename_i v hx
  refine Step.ok_of_okV (f:=convert s d (a.eval x)) (by simp[execOp,ho]) ?_
  rw[hag.ev hx]
  exact okV_conv hT s d v
 case h_12 t x ho=>
  split<;>first|trivial|skip
  rename_i d v h1 h2 hl hx
  intro w
  have hd:=hT.td _ (look_mem hl)
  have hni: ∃u,P.underlying t=some u/\ ∀ms,u≠ .interface ms:=by
   cases d with
   |sc s=>
    obtain⟨u,hu,hk⟩:=td_sc hT hl
    refine⟨u,hu,?_⟩
    rintro ms rfl
    simp only[kindOf,Option.some.injEq]at hk
    subst hk
    exact h1 rfl
   |st l fs=>
    have h:=hd.1
    unfold fieldsOf at h
    split at h
    ·rename_i fds hu;exact⟨_,hu,by rintro ms ⟨⟩⟩
    ·simp at h
   |ar k el l=>
    obtain⟨⟨e',hu,_⟩,_⟩:=hd
    exact⟨_,hu,by rintro ms ⟨⟩⟩
   |tup l=>exact(h2 l rfl).elim
  obtain⟨u,hu,hne⟩:=hni
  have:(Instr.makeInterface t v).run P w= .ok (.iface t v) w:=by
   cases u<;>simp_all [Instr.makeInterface,run_underlying hu]
  simp[execOp,ho,hag.ev hx,this]
 case h_13 fn first cap ho=>
  split<;>first|trivial|skip
  rename_i u v hu hv
  intro w
  have h1:first.map a.eval=u.toArray:=by apply Array.ext';simp[<-evs_eval hag hu]
  have h2:cap.map a.eval=v.toArray:=by apply Array.ext';simp[<-evs_eval hag hv]
  simp[execOp,ho,h1,h2,Instr.makeFunc]
 case h_14 t l c ho=>
  split<;>first|trivial|skip
  rename_i s kl l' kc c' hs hl hc
  refine Step.ok_of_okV (f:=Instr.makeSlice t (a.eval l) (a.eval c)) (by simp[execOp,ho]) ?_
  rw[hag.ev hl,hag.ev hc]
  rintro K w ⟨h,hk⟩
  exact⟨_,_,run_make_si hT hs kl kc h w,hk⟩
 case h_15 t x lo hi mx ho=>
  split<;>first|trivial|skip
  rename_i v hx
  refine Step.ok_of_okV (f:=Instr.sliceAt t (a.eval x) (lo.map a.eval) (hi.map a.eval) (mx.map a.eval)) (by simp[execOp,ho]) ?_
  rw[hag.ev hx]
  refine okV_bad_or fun hb=>?_
  have hoi: ∀(z:Option Operand),oint e z≠some none->oint e z=(z.map a.eval).map fun v=>intOf? (some v):=by
   intro z hz
   cases z with
   |none=>rfl
   |some z=>
    simp only[oint,Option.map_some]at hz|-
    cases hv:e.ev z with
    |none=>rw[hv]at hz;simp[intOf?]at hz
    |some v=>rw[hag.ev hv]
  have nb:oint e lo≠some none/\oint e hi≠some none/\oint e mx≠some none:=by
   refine⟨fun h=>hb ?_,fun h=>hb ?_,fun h=>hb ?_⟩<;>rw[h]<;>unfold sliceStep<;>split<;>(split<;>first|rfl|(split<;>first|rfl|contradiction|simp_all|(split<;>first|rfl|contradiction|simp_all)))
  rw[hoi lo nb.1,hoi hi nb.2.1,hoi mx nb.2.2]
  exact okV_slice hT t v _ _ _
 case h_16 t x i ho=>
  split<;>first|trivial|skip
  rename_i v i' hx hi
  refine Step.ok_of_okV (f:=Instr.indexAt t (a.eval x) (a.eval i)) (by simp[execOp,ho]) ?_
  rw[hag.ev hx,hag.ev hi]
  exact okV_index hT t v i'
 case h_17 x i ho=>
  split<;>first|trivial|skip
  rename_i vs hx
  refine optv_ok fun v hv w=>?_
  have hv':vs[i]? =some v:=by simpa using hv
  simp[execOp,ho,hag.ev hx,Instr.extract,hv']
 case h_18 t parts ho=>
  refine Step.ok_of_okV (f:=Instr.build t (parts.map fun(i,x)=>(i,a.eval x))) (by simp[execOp,ho]) ?_
  refine okV_bad_or fun hb=>?_
  have hsome: ∀x∈pevs e parts.toList,x.2.isSome=true:=by
   intro x hx
   unfold buildStep at hb
   split at hb
   ·split at hb
    ·rename_i hf;exact fillT_some hf x hx
    ·exact absurd rfl hb
   ·split at hb
    ·rename_i hf;exact fillT_some hf x hx
    ·exact absurd rfl hb
   ·exact absurd rfl hb
  rw[pevs_eval hag hsome]
  have:=okV_build hT t (parts.toList.map fun(i,x)=>(i,a.eval x))
  have e2:parts.map (fun(i,x)=>(i,a.eval x))=(parts.toList.map fun(i,x)=>(i,a.eval x)).toArray:=by apply Array.ext';simp
  exact e2▸this
 case h_19 t k parts ho =>
  refine Step.ok_of_okV (f:=Instr.buildSlice t k (parts.map fun(i,x)=>(i,a.eval x))) (by simp[execOp,ho]) ?_
  refine okV_bad_or fun hb=>?_
  have hsome: ∀x∈pevs e parts.toList,x.2.isSome=true:=by
   intro x hx
   unfold buildSliceStep at hb
   split at hb
   ·split at hb
    ·rename_i ty _
     cases hc:Nat.ble (k*ty.size) 1000 with
     |false=>rw[hc]at hb;exact absurd rfl hb
     |true=>
      rw[hc,cond_true]at hb
      split at hb
      ·rename_i hf;exact fillT_some hf x hx
      ·rename_i hf;exact fillT_some hf x hx
      ·exact absurd rfl hb
    ·exact absurd rfl hb
   ·exact absurd rfl hb
  rw[pevs_eval hag hsome]
  have:=okV_buildSlice hT t k (parts.toList.map fun(i,x)=>(i,a.eval x))
  have e2:parts.map (fun(i,x)=>(i,a.eval x))=(parts.toList.map fun(i,x)=>(i,a.eval x)).toArray:=by apply Array.ext';simp
  exact e2▸this
 case h_20 t ho=>exact Step.ok_of_okV (f:=Instr.alloc t true (.tuple #[])) (by simp[execOp,ho]) (okV_alloc hT t)
 case h_21 t x ho=>
  split<;>first|trivial|skip
  rename_i v hx
  refine Step.ok_of_okV (f:=Instr.box t (a.eval x)) (by simp[execOp,ho]) ?_
  rw[hag.ev hx]
  exact okV_box t v
 case h_22 c ho=>exact call_ok hT hag ho
end
end Go.Tr
