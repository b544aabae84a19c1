/- Part 7 of the proof of fnBatchHistory_card. Conditions: none. -/
import Derived.Test.YtpkoddfamelnhaaGreatDoorH06
import Derived.Lib.BytesEntry
set_option linter.unusedVariables false
set_option linter.unusedSimpArgs false
namespace Go.Tr
theorem Sat.rdL {w L R}{p:Addr}{vs:List Value}(h:Sat w L)(t:Take L (Arr p vs) R):RdL w p vs:=by
 obtain⟨g,hc,hg,_⟩:=h.take t
 exact fun j v e=>(hg _ _ (hc.1 j v e)).1
theorem RdL.left {w}{p:Addr}{xs ys:List Value}(h:RdL w p (xs++ys)):RdL w p xs:=fun j v e=>h j v (by
 have hj:j<xs.length:=by
  rcases Nat.lt_or_ge j xs.length with h'|h'
  ·exact h'
  ·simp[List.getElem?_eq_none h']at e
 rw[List.getElem?_append_left hj];exact e)
theorem RdL.right {w}{p:Addr}{xs ys:List Value}(h:RdL w p (xs++ys)):RdL w (p.add xs.length) ys:=fun j v e=>by
 rw[Addr.add_add]
 exact h _ v (by rw[List.getElem?_append_right om];simpa using e)
theorem Near.rdL {w w1}[n:Near w w1]{p:Addr}{vs:List Value}(h:RdL w p vs):RdL w1 p vs:=fun j v e=>by rw[n.mem.1];exact h j v e
theorem Near.rdB {w w1}[n:Near w w1]{p:Option Addr}{k:Nat}{s:ByteArray}(h:RdB w p k s):RdB w1 p k s:=by
 cases p with
 |none=>exact h
 |some p=>exact⟨h.1,Near.rdL h.2⟩
theorem Near.rdS {w w1}[n:Near w w1]{p:Option Addr}{k:Nat}{s:List Value}(h:RdS w p k s):RdS w1 p k s:=by
 cases p with
 |none=>exact h
 |some p=>exact⟨h.1,Near.rdL h.2⟩
def Buf (k:Nat)(d:Sl)(cs:List Value):Chunk:=fun g=>
 match d.a with
 |none=>d.n=0/\d.c=0/\cs=[]/\ ∀a,g a=none
 |some a=>cs.length=d.n*k/\ ∃sp,cs.length+sp.length=d.c*k/\Arr a (cs++sp) g
theorem SatU.nil {w}{U:Addr->Prop}{c:Chunk}{L}(hc:c (fun _=>none))(h:SatU w U L):SatU w U (c::L):=by
 refine⟨fun _=>none,hc,fun a v e=>?_,SatU.mono ?_ h⟩
 ·cases e
 ·rintro a (h|h)
  ·exact h
  ·exact(h rfl).elim
theorem Sat.bufNil {w L}(k:Nat)(h:Sat w L):Sat w (Buf k ⟨none,0,0⟩ []::L):=
 SatU.nil ⟨rfl,rfl,rfl,fun _=>rfl⟩ h
theorem setArr {p:Addr}: ∀{vs:List Value} {xs:List Value} {o:Nat} {w L},o+vs.length<=xs.length->Sat w (Arr p xs::L)->(∀v∈vs,v.oneCell'=true)->
  StOk w (p.add o) vs 0/\Sat (setL w (p.add o) vs 0) (Arr p (xs.take o++vs++xs.drop (o+vs.length))::L):=by
 have key: ∀{vs:List Value} {xs:List Value} {o i:Nat} {w:World} {L:List Chunk},o+i+vs.length<=xs.length->Sat w (Arr p xs::L)->(∀v∈vs,v.oneCell'=true)->
  StC (p.add o) i vs (fun w'=>Sat w' (Arr p (xs.take (o+i)++vs++xs.drop (o+i+vs.length))::L)) w:=by
  intro vs
  induction vs with
  |nil=>intro xs o i w L hl h _;simp only[StC];simpa using h
  | cons v vs ih =>
   intro xs o i w L hl h h1
   simp only[List.length_cons]at hl
   have hlt:o+i<xs.length:=by omega
   have hat:=at_arr (p:=p) (vs:=xs) (k:=o+i) (List.getElem?_eq_getElem hlt)
   refine⟨h1 v (by simp),?_,?_,?_⟩
   ·rw[Addr.add_add];exact⟨_,(h.get hat).1⟩
   ·rw[Addr.add_add];exact(h.get hat).2
   ·rw[Addr.add_add]
    have:=ih (xs:=xs.set (o+i) v) (o:=o) (i:=i+1) (by simp only[List.length_set];omega) (h.set hat v) (fun x hx=>h1 x (by simp[hx]))
    have e:(xs.set (o+i) v).take (o+(i+1))++vs++(xs.set (o+i) v).drop (o+(i+1)+vs.length)=xs.take (o+i)++v::vs++xs.drop (o+i+(vs.length+1)):=by
     rw[List.drop_set_of_lt om,<-Nat.add_assoc,List.take_add_one,List.take_set_of_le om,List.getElem?_set_self hlt]
     simp[show o+i+1+vs.length=o+i+(vs.length+1) by omega]
    rw[e]at this
    exact this
 intro vs xs o w L hl h h1
 exact StC_sound (key (i:=0) (by simpa using hl) h h1)
theorem AppP_run {w w1 L}{s:SI}{d x:Sl}{old new:List Value}{K:Sl->WP}(h:Sat w (Buf s.l.length d old::L))[Near w w1]
  (hx:RdS w1 x.a (x.n*s.l.length) new) (hn:new.length=x.n*s.l.length) (h1: ∀v∈new,v.oneCell'=true)
  (hb:(2*(d.n+x.n)+1024)*s.by_<=281474976710656) (hb':d.n+x.n<=9223372036854775807)
  (k: ∀r w',r.n=d.n+x.n->(0<d.n+x.n->r.a.isSome=true)->Sat w' (Buf s.l.length r (old++new)::L)->K r w'):AppP s d x K w1:=by
 replace h:=h.near (w':=w1)
 obtain⟨a,n,c⟩:=d
 refine⟨new,hx,fun hc=>?_,fun hc=>⟨hb,hb',?_⟩⟩
 ·simp only at hc
  cases a with
  |none=>
   have h0:=h
   obtain⟨g,⟨h1,h2,h3,_⟩,_⟩:=h
   simp only at h1 h2
   subst h1 h2 h3
   have hx0:x.n=0:=by simp only[Nat.zero_add]at hc;omega
   have hnew:new=[]:=List.eq_nil_of_length_eq_zero (by rw[hn,hx0,Nat.zero_mul])
   subst hnew
   refine⟨trivial,k _ _ rfl (fun h=>by simp only[Nat.zero_add]at h;omega) ?_⟩
   rw[hx0]
   exact h0
  | some a =>
   obtain⟨g,⟨hl,sp,hs,ha⟩,hg⟩:=h
   simp only at hl hs
   have hlen:old.length+new.length<=(old++sp).length:=by
    rw[List.length_append,hs,hl,hn,<-Nat.add_mul]
    exact Nat.mul_le_mul_right _ hc
   have⟨hok,hsat⟩:=setArr (p:=a) (vs:=new) (xs:=old++sp) (o:=old.length) (w:=w1) (L:=L) hlen ⟨g,ha,hg⟩ h1
   rw[hl]at hok hsat
   refine⟨hok,k _ _ rfl (fun _=>rfl) ?_⟩
   refine hsat.cons fun g' hg'=>⟨?_,sp.drop new.length,?_,?_⟩
   ·simp only[List.length_append,hl,hn,Nat.add_mul]
   ·simp only[List.length_append,List.length_drop]
    simp only[List.length_append]at hlen
    omega
   ·have e1:(old++sp).take (n*s.l.length)=old:=by rw[<-hl];simp
    have e2:(old++sp).drop (n*s.l.length+new.length)=sp.drop new.length:=by rw[<-hl,List.drop_append];simp
    rw[e1,e2]at hg'
    exact hg'
 ·simp only at hc
  have hold:RdS w1 a (n*s.l.length) old:=by
   obtain⟨g,hb,hg,_⟩:=h
   cases a with
   |none=>exact hb.2.2.1
   |some a=>
    obtain⟨hl,sp,_,ha⟩:=hb
    refine⟨hl,RdL.left (ys:=sp) fun j v e=>(hg _ _ (ha.1 j v e)).1⟩
  refine⟨old,hold,fun c' hc'=>?_⟩
  have holdl:old.length=n*s.l.length:=by
   obtain⟨g,hb,hg,_⟩:=h
   cases a with
   |none=>
    obtain⟨h1,_,h3,_⟩:=hb
    simp only at h1
    simp[h3,h1]
   |some a=>exact hb.1
  have hz:(zrep s.l (c'-(n+x.n))).length=(c'-(n+x.n))*s.l.length:=by simp[zrep]
  refine k _ _ rfl (fun _=>rfl) (Sat.drew ((h.tail.new (old++new++zrep s.l (c'-(n+x.n))) s.e (0,0) (fun i _ h=>absurd h.2 (Nat.not_lt_zero _))).cons fun g hg=>⟨?_,_,?_,hg⟩))
  ·simp only[List.length_append,holdl,hn,Nat.add_mul]
  ·simp only[List.length_append,holdl,hn,hz,<-Nat.add_mul]
   congr 1
   simp only at hc'
   omega
end Go.Tr
namespace Go.Proofs.YtpkoddfamelnhaaGreatDoor
open Go Go.Tr
theorem find93 :Extern.findNext Tryz.f93=none:=by kernel_rfl
theorem find93' :Extern.find Tryz.f93=some Extern.BytealgCompare.compare:=by kernel_rfl
theorem compare_eq (a b:Value):Extern.BytealgCompare.compare #[a,b]=(do pure (goInt (Extern.BytealgCompare.cmp (<-Extern.Bytes.bytesOf a) (<-Extern.Bytes.bytesOf b)))):=rfl
theorem bo {x:Sl}{s:ByteArray}{w}(h:RdB w x.a x.n s):(Extern.Bytes.bytesOf (.slice x.a x.n x.c)).run Tryz.prog w= .ok s w:=by
 obtain⟨a,n,c⟩:=x
 cases a with
 |none=>simp only[RdB]at h;subst h;rfl
 | some a =>
  obtain⟨hn,hr⟩:=h
  have hl:=Lib.run_loadBytesX (P:=Tryz.prog) w (s.data.toList.map fun b=>(b.toNat:Int)) a .empty (fun j x hx=>hr j _ (by
   simp only[List.getElem?_map,Option.map_eq_some_iff]at hx
   obtain⟨b,hb,rfl⟩:=hx
   simp[Go.Tr.bytesOf,hb]))
  have e:(s.data.toList.map fun b=>(b.toNat:Int)).length=n:=by simpa using hn
  rw[e]at hl
  simp only[Extern.Bytes.bytesOf]
  rw[hl]
  congr 1
  apply ByteArray.ext
  apply Array.ext'
  simp only[Lib.bytesOf,ByteArray.empty,ByteArray.emptyWithCapacity,List.map_map]
  have: ∀l:List UInt8,List.map ((fun n:Int=>UInt8.ofNat n.toNat)∘fun b:UInt8=>(b.toNat:Int)) l=l:=by intro l;induction l<;>simp_all
  simp[this]
  rfl
theorem call93 {a b:Sl}{s t:ByteArray}{w}{K:Int->WP}(ha:RdB w a.a a.n s)(hb:RdB w b.a b.n t)(k:K (Extern.BytealgCompare.cmp s t) w):
  CallF Tryz.prog 93 [.slice a.a a.n a.c,.slice b.a b.n b.c] [.one (.int .i64)] K w:=by
 unfold CallF
 have e:(callFunc 93 [Value.slice a.a a.n a.c,.slice b.a b.n b.c].toArray).run Tryz.prog w= .ok (.value (.int .i64 (Extern.BytealgCompare.cmp s t))) w:=by
  simp only[callFunc,Sem.run_bind,run_program,Result.andThen_ok,Tryz.func93]
  have hn:(Tryz.f93.name== "runtime.NumGoroutine")=false:=by kernel_rfl
  have hbn:Tryz.f93.body.isNone=true:=rfl
  simp only[hn,hbn,find93,find93']
  simp[compare_eq,bo ha,bo hb,goInt]
 rw[e]
 exact⟨Ext.refl _,_,rfl,k⟩
end Go.Proofs.YtpkoddfamelnhaaGreatDoor
namespace Go.Tr
def DAt (D:Hp)(p:Addr)(v:Value):Prop:= ∃f,D p=some (v,f)
def BytesAt (D:Hp)(x:Sl)(s:ByteArray):Prop:=
 match x.a with
 |none=>s= .empty/\x.n=0
 |some a=>s.size=x.n/\ ∀j v,(bytesOf s)[j]? =some v->DAt D (a.add j) v
def Hp.le (D D':Hp):Prop:= ∀a x,D a=some x->D' a=some x
theorem Hp.le_refl (D:Hp):D.le D:=fun _ _ h=>h
theorem Hp.le.trans {A B C:Hp}(h:A.le B)(k:B.le C):A.le C:=fun a x e=>k a x (h a x e)
theorem DAt.mono {D D':Hp}(h:D.le D'){p:Addr}{v:Value}(k:DAt D p v):DAt D' p v:=k.imp fun _ e=>h _ _ e
theorem BytesAt.mono {D D':Hp}(h:D.le D'){x:Sl}{s:ByteArray}(k:BytesAt D x s):BytesAt D' x s:=by
 obtain⟨a,n,c⟩:=x
 cases a with
 |none=>exact k
 |some a=>exact⟨k.1,fun j v e=>(k.2 j v e).mono h⟩
theorem BytesAt.n {D}{x:Sl}{s:ByteArray}(k:BytesAt D x s):x.n=s.size:=by
 obtain⟨a,n,c⟩:=x
 cases a with
 |none=>exact k.2.trans (by rw[k.1];rfl)
 |some a=>exact k.1.symm
theorem Sat.dat {w:World}{L R D}(h:Sat w L)(t:Take L (Own D) R){p:Addr}{v:Value}(k:DAt D p v):w.cell? p=some v:=by
 obtain⟨f,e⟩:=k
 exact(h.take t).own e
theorem Sat.rdB {w L R D}(h:Sat w L)(t:Take L (Own D) R){x:Sl}{s:ByteArray}(k:BytesAt D x s):RdB w x.a x.n s:=by
 obtain⟨a,n,c⟩:=x
 cases a with
 |none=>exact k.1
 |some a=>exact⟨k.1,fun j v e=>h.dat t (k.2 j v e)⟩
theorem CallV_run {P:Program}{f:FuncId}{a b:Array Value}{args:List Value}{R:List Ty}{K:tden R->WP}{w}
  (h:CallF P f (a.toList++args++b.toList) R K w):CallV P (.func (.func f) a b) args R K w:=by
 unfold CallV
 unfold CallF at h
 have e:(a.toList++args++b.toList).toArray=(a++args.toArray)++b:=by apply Array.ext';simp
 rw[e]at h
 simpa [Deferred.ofValue,invoke]using h
theorem CallV_run' {P:Program}{f:FuncId}{a b:Array Value}{args:List Value}{R:List Ty}{K:tden R->WP}{w}
  (h:CallF P f (a.toList++args++b.toList) R K w):CallV P (FV.enc (.mk (.func f) a b)) args R K w:=CallV_run h
def MethAt (P:Program)(t:TypeId)(m:String)(f:FuncId):Prop:= ∀v w,(method (P.types.size+Made.depth) t v m).run P w= .ok (f,v) w
theorem CallI_run {P:Program}{t:TypeId}{v:Value}{m:String}{f:FuncId}(hm:MethAt P t m f){args:List Value}{R:List Ty}{K:tden R->WP}{w}
  (h:CallF P f (v::args) R K w):CallI P (.iface t v) m args R K w:=by
 unfold CallI
 unfold CallF at h
 have e:(v::args).toArray= #[v]++args.toArray:=by apply Array.ext';simp
 rw[e]at h
 have:(callMethod (.iface t v) m args.toArray).run P w=(callFunc f (#[v]++args.toArray)).run P w:=by
  simp only[callMethod,Sem.run_bind,run_program,Result.andThen_ok,hm v w]
 rw[this]
 exact h
def emp :Chunk:=fun g=> ∀a,g a=none
def Star (c d:Chunk):Chunk:=fun g=> ∃g1 g2:Hp,c g1/\d g2/\(∀a,g1 a=none\/g2 a=none)/\g=fun a=>(g1 a).or (g2 a)
theorem SatU.star {w}{U:Addr->Prop}{c d:Chunk}{L}:SatU w U (Star c d::L)↔SatU w U (c::d::L):=by
 constructor
 ·rintro⟨g,⟨g1,g2,hc,hd,hdis,rfl⟩,hg,hr⟩
  refine⟨g1,hc,fun a v e=>hg a v (by simp[e]),g2,hd,fun a v e=>?_,SatU.mono ?_ hr⟩
  ·have h1:g1 a=none:=(hdis a).resolve_right (by simp[e])
   obtain⟨x,y,z⟩:=hg a v (by simp[e,h1])
   exact⟨x,y,fun h=>h.elim z fun h=>h h1⟩
  ·rintro a ((h|h)|h)
   ·exact .inl h
   ·refine .inr ?_
    cases h1:g1 a with
    |none=>exact(h h1).elim
    |some x=>simp[h1]
   ·refine .inr ?_
    cases h2:g2 a with
    |none=>exact(h h2).elim
    |some x=>cases h1:g1 a<;>simp[h1,h2]
 ·rintro⟨g1,hc,hg1,g2,hd,hg2,hr⟩
  refine⟨_,⟨g1,g2,hc,hd,fun a=>?_,rfl⟩,fun a v e=>?_,SatU.mono ?_ hr⟩
  ·cases h2:g2 a with
   |none=>exact .inr rfl
   |some x=>
    refine .inl ?_
    cases h1:g1 a with
    |none=>rfl
    |some y=>exact((hg2 a x h2).2.2 (.inr (by simp[h1]))).elim
  ·cases h1:g1 a with
   |some x=>
    rw[h1]at e
    simp only[Option.some_or,Option.some.injEq]at e
    subst e
    exact hg1 a x h1
   |none=>
    rw[h1]at e
    simp only[Option.none_or]at e
    obtain⟨x,y,z⟩:=hg2 a v e
    exact⟨x,y,fun h=>z (.inl h)⟩
  ·rintro a (h|h)
   ·exact .inl (.inl h)
   ·cases h1:g1 a with
    |some x=>exact .inl (.inr (by simp[h1]))
    |none=>rw[h1]at h;exact .inr (by simpa using h)
theorem Sat.star {w}{c d:Chunk}{L}:Sat w (Star c d::L)↔Sat w (c::d::L):=SatU.star
theorem Sat.swap {w}{c d:Chunk}{L}(h:Sat w (c::d::L)):Sat w (d::c::L):=SatU.swap h
theorem SatU.under {w}{c:Chunk}{L M}(f: ∀U,SatU w U L->SatU w U M): ∀U,SatU w U (c::L)->SatU w U (c::M):=by
 rintro U ⟨g,hc,hg,hr⟩
 exact⟨g,hc,hg,f _ hr⟩
def upd {α:Type}(c:Nat->α)(i:Nat)(d:α):Nat->α:=fun j=>if j=i then d else c j
@[simp] theorem upd_same {α : Type} (c : Nat -> α) (i : Nat) (d : α) : upd c i d i = d := if_pos rfl
theorem upd_other {α:Type}{c:Nat->α}{i j:Nat}{d:α}(h:j≠i):upd c i d j=c j:=if_neg h
def Fam :Nat->(Nat->Chunk)->Chunk
 |0,_=>emp
 |k+1,c=>Star (c k) (Fam k c)
theorem Fam.congr {k:Nat}{c d:Nat->Chunk}(h: ∀i,i<k->c i=d i):Fam k c=Fam k d:=by
 induction k with
 |zero=>rfl
 |succ k ih=>simp only[Fam];rw[h k om,ih fun i hi=>h i om]
theorem SatU.fam_out {w}{c:Nat->Chunk}{i:Nat}: ∀{k:Nat} {L},i<k-> ∀U,SatU w U (Fam k c::L)->SatU w U (c i::Fam k (upd c i emp)::L)
 |0,_,h,_,_=>by omega
 | k + 1, L, h, U, hs => by
  simp only[Fam]at hs|-
  replace hs:=SatU.star.1 hs
  by_cases e:i=k
  ·subst e
   refine SatU.under (fun U h=>SatU.star.2 ?_) U hs
   rw[upd_same,Fam.congr (d:=c) fun j hj=>upd_other om]
   exact SatU.nil (fun _=>rfl) h
  ·have:=SatU.under (fun U=>SatU.fam_out (L:=L) (show i<k by omega) U) U hs
   refine SatU.under (fun U h=>SatU.star.2 ?_) U (SatU.swap this)
   rw[upd_other om]
   exact h
theorem Sat.fam_out {w}{c:Nat->Chunk}{i k:Nat}{L}(h:Sat w (Fam k c::L))(hi:i<k):Sat w (c i::Fam k (upd c i emp)::L):=SatU.fam_out hi _ h
theorem SatU.fam_in {w}{c:Nat->Chunk}{d:Chunk}{i:Nat}: ∀{k:Nat} {L},i<k-> ∀U,SatU w U (d::Fam k (upd c i emp)::L)->SatU w U (Fam k (upd c i d)::L)
 |0,_,h,_,_=>by omega
 | k + 1, L, h, U, hs => by
  simp only[Fam]at hs|-
  refine SatU.star.2 ?_
  replace hs:=SatU.under (fun U h=>SatU.star.1 h) U hs
  by_cases e:i=k
  ·subst e
   rw[upd_same]at hs
   rw[upd_same]
   rw[Fam.congr (d:=c) fun j hj=>upd_other om]at hs|-
   refine SatU.under (fun U h=>?_) U hs
   obtain⟨g,hc,_,hr⟩:=h
   exact SatU.mono (fun a ha=>.inl ha) hr
  ·rw[upd_other om]at hs
   rw[upd_other om]
   exact SatU.under (fun U h=>SatU.fam_in om U h) U (SatU.swap hs)
theorem Sat.fam_in {w}{c:Nat->Chunk}{d:Chunk}{i k:Nat}{L}(h:Sat w (d::Fam k (upd c i emp)::L))(hi:i<k):Sat w (Fam k (upd c i d)::L):=SatU.fam_in hi _ h
theorem arr_split {p:Addr}{xs ys:List Value}{g}(h:Arr p (xs++ys) g):Star (Arr p xs) (Arr (p.add xs.length) ys) g:=by
 classical
 refine⟨fun a=>if∃i,i<xs.length/\a=p.add i then g a else none,fun a=>if∃i,i<xs.length/\a=p.add i then none else g a,⟨fun i v e=>?_,fun a ha=>?_⟩,⟨fun i v e=>?_,fun a ha=>?_⟩,fun a=>?_,?_⟩
 ·have hi:i<xs.length:=(List.getElem?_eq_some_iff.1 e).1
  dsimp only
  rw[if_pos ⟨i,hi,rfl⟩]
  exact h.1 i v (by rw[List.getElem?_append_left hi];exact e)
 ·dsimp only at ha
  split at ha
  ·rename_i hh;exact hh
  ·exact(ha rfl).elim
 ·dsimp only
  rw[Addr.add_add,if_neg]
  ·exact h.1 _ v (by rw[List.getElem?_append_right om];simpa using e)
  ·rintro⟨j,hj,hh⟩
   have:=Addr.add_inj hh
   omega
 ·dsimp only at ha
  split at ha
  ·exact(ha rfl).elim
  ·rename_i hh
   obtain⟨i,hi,rfl⟩:=h.2 a ha
   have hge:xs.length<=i:=Nat.le_of_not_lt fun hlt=>hh ⟨i,hlt,rfl⟩
   rw[List.length_append]at hi
   exact⟨i-xs.length,by omega,by rw[Addr.add_add];congr 1;omega⟩
 ·dsimp only
  split
  ·exact .inr rfl
  ·exact .inl rfl
 ·funext a
  dsimp only
  split
  ·cases g a<;>rfl
  ·rfl
theorem Sat.split {w}{p:Addr}{xs ys:List Value}{L}(h:Sat w (Arr p (xs++ys)::L)):Sat w (Arr p xs::Arr (p.add xs.length) ys::L):=
 Sat.star.1 (h.cons fun _=>arr_split)
theorem arr_join {p:Addr}{xs ys:List Value}{g}(h:Star (Arr p xs) (Arr (p.add xs.length) ys) g):Arr p (xs++ys) g:=by
 obtain⟨g1,g2,h1,h2,hd,rfl⟩:=h
 refine⟨fun i v e=>?_,fun a ha=>?_⟩
 ·by_cases hi:i<xs.length
  ·rw[List.getElem?_append_left hi]at e
   simp[h1.1 i v e]
  ·rw[List.getElem?_append_right om]at e
   have:=h2.1 _ v e
   rw[Addr.add_add,show xs.length+(i-xs.length)=i by omega]at this
   have hn:g1 (p.add i)=none:=(hd (p.add i)).resolve_right (by simp[this])
   simp[this,hn]
 ·dsimp only at ha
  cases e:g1 a with
  |some x=>
   obtain⟨i,hi,rfl⟩:=h1.2 a (by simp[e])
   exact⟨i,by rw[List.length_append];omega,rfl⟩
  |none=>
   rw[e]at ha
   obtain⟨i,hi,rfl⟩:=h2.2 a (by simpa using ha)
   exact⟨xs.length+i,by rw[List.length_append];omega,by rw[Addr.add_add]⟩
theorem Sat.join {w}{p:Addr}{xs ys:List Value}{L}(h:Sat w (Arr p xs::Arr (p.add xs.length) ys::L)):Sat w (Arr p (xs++ys)::L):=
 (Sat.star.2 h).cons fun _=>arr_join
abbrev bcmp :=Extern.BytealgCompare.cmp
end Go.Tr
namespace Go.Proofs.YtpkoddfamelnhaaGreatDoor
open Go Go.Tr
open Go.IntKind (i64 u64 u32 u8)
set_option maxRecDepth 1000000
set_option linter.unusedVariables false
noncomputable section
def A44 :=au Tryz.f44 [(5,[]),(15,[(7,tS),(8,tS)]),(31,[(7,tS),(8,tS)]),(53,[]),(72,[(136,tB)]),(105,[])] [(23,[(7,tS),(8,tS),(9,tu32),(10,tA)])]
def B44 (batch1:Option Addr)(nn:Addr)(K:(Option Addr×IV)->WP)(w:World):Prop:=Tr.Join (fun(a0:Unit) w=>Tr.Join (fun(a1:Sl×Sl) w=>Ld tP nn (fun a2 w=>LdF a2 4 tS (fun a3 w=>Ld tP nn (fun a4 w=>CallF Tryz.prog 88 [(.iface 76 (.pointer a4))] [] (fun a5 w=>Ld tP nn (fun a6 w=>StF a6 4 (a1.1.v) (fun w=>Ld tP nn (fun a7 w=>CallF Tryz.prog 88 [(.iface 76 (.pointer a7))] [] (fun a8 w=>Ld tP nn (fun a9 w=>StF a9 4 (a1.2.v) (fun w=>Ld tP nn (fun aa w=>CallF Tryz.prog 88 [(.iface 76 (.pointer aa))] [] (fun ab w=>Ld tP nn (fun ac w=>StF ac 4 (a3.v) (fun w=>Tr.Join (fun(ad:Unit) w=>(if(decide ((a1.2.n:Int)>0))=true then Ld tP nn (fun ae w=>LdF ae 0 tF (fun af w=>Ld tP nn (fun ag w=>LdF ag 1 tF (fun ah w=>Ones [(.func (.func 91) #[] #[.pointer (some nn)]),(FV.enc ah),(FV.enc af)]/\NewP [(FV.enc af),(FV.enc ah),(.func (.func 91) #[] #[.pointer (some nn)]),.slice none 0 0,.slice none 0 0,.nilFunc,.slice none 0 0,.slice none 0 0,.slice none 0 0,.bool false] 257 (fun ai w=>Ld tP nn (fun aj w=>Ld tP nn (fun ak w=>LdF ak 2 tS (fun al w=>Ld tP nn (fun am w=>LdF am 0 tF (fun an w=>Ones [(FV.enc an)]/\NewP [.pointer aj,al.v,a1.2.v,(FV.enc an),.int .i64 (-1:Int),.slice none 0 0,.int .u64 0,.nilIface,.slice none 0 0,.slice none 0 0] 260 (fun ao w=>CallF Tryz.prog 92 [.pointer (some ai),(.iface 258 (.pointer (some ao))),.int .i64 (a1.2.n:Int)] [tI] (fun ap w=>Ld tP nn (fun aq w=>decI .nilIface (fun ar=>K (aq,ar) w)) w) w) w) w) w) w) w) w.drew) w) w) w) w) w.drew else Ld tP nn (fun au w=>decI .nilIface (fun av=>K (au,av) w)) w)) (fun ax=>(if(decide ((a1.1.n:Int)>0))=true then Ld tP nn (fun ay w=>LdF ay 0 tF (fun az w=>Ld tP nn (fun b w=>LdF b 1 tF (fun b0 w=>Ones [(.func (.func 89) #[] #[.pointer (some nn)]),(FV.enc b0),(FV.enc az)]/\NewP [(FV.enc az),(FV.enc b0),(.func (.func 89) #[] #[.pointer (some nn)]),.slice none 0 0,.slice none 0 0,.nilFunc,.slice none 0 0,.slice none 0 0,.slice none 0 0,.bool false] 257 (fun b1 w=>Ld tP nn (fun b2 w=>Ld tP nn (fun b3 w=>LdF b3 2 tS (fun b4 w=>Ld tP nn (fun b5 w=>LdF b5 0 tF (fun b6 w=>Ones [(FV.enc b6)]/\NewP [.pointer b2,b4.v,a1.1.v,(FV.enc b6),.int .i64 (-1:Int),.slice none 0 0,.int .u64 0,.nilIface,.slice none 0 0,.slice none 0 0] 260 (fun b7 w=>CallF Tryz.prog 90 [.pointer (some b1),(.iface 258 (.pointer (some b7))),.int .i64 (a1.1.n:Int)] [] (fun b8 w=>ax () w) w) w) w) w) w) w) w.drew) w) w) w) w) w.drew else ax () w))) w) w) w) w) w) w) w) w) w) w) w) w) w) w) (fun b9=>Ld tP nn (fun ba w=>LdF ba 2 tS (fun bb w=>(if(decide ((bb.n:Int)>12))=true then Ld tP nn (fun bc w=>LdF bc 2 tS (fun bd w=>(0<=(12:Int)/\(12:Int)<=(bd.n:Int))/\NewP [.slice none 0 0] 248 (fun be w=>St be (.slice ((sub bd.a 1 12 bd.n bd.c).a) (bd.n-12) (bd.c-12)) (fun w=>Tr.Loop (fun(bf:(Sl×Sl×Int×Addr)->WP) (sv64:Sl×Sl×Int×Addr) w=>Ld tS sv64.2.2.2 (fun bg w=>(if(decide ((bg.n:Int)>0))=true then Tr.Join (fun(bh:Sl×Sl) w=>Ld tS sv64.2.2.2 (fun bi w=>NewP [.slice none 0 0] 248 (fun bj w=>St bj (bi.v) (fun w=>bf (bh.1,bh.2,(u32.wrap (sv64.2.2.1+1)),bj) w) w) w) w) (fun bk=>Ld tP nn (fun bl w=>LdF bl 2 tS (fun bm w=>Ld tS sv64.2.2.2 (fun bn w=>CallF Tryz.prog 87 [.pointer (some sv64.2.2.2)] [tu8,tS,tS,tB,tI] (fun(bo:Int×Sl×Sl×Bool×IV) w=>(if(!bo.2.2.2.1)=true then IsI (IV.enc bo.2.2.2.2)/\(if(!(isNilI (IV.enc bo.2.2.2.2)))=true then decI (IV.enc bo.2.2.2.2) (fun bp=>K (none,bp) w)else b9 (sv64.1,sv64.2.1) w)else NewP [.int .u32 0,.int .u32 0,.int .u32 0,.int .u32 0] 252 (fun bq w=>StL bq [.int .u32 (u32.wrap (i64.wrap ((bm.n:Int)-(bn.n:Int)))),.int .u32 sv64.2.2.1,.int .u32 0,.int .u32 0] (fun w=>Tr.Join (fun(br:Unit) w=>(if(bo.1==15)=true then Ld (.agg [.int .u32,.int .u32,.int .u32,.int .u32]) bq (fun(bs:Int×Int×Int×Int) w=>NewS [.int .u32 bs.1,.int .u32 bs.2.1,.int .u32 bs.2.2.1,.int .u32 bs.2.2.2] 252 1 (fun bt w=>AppP si243 sv64.1 bt (fun bu w=>bk (bu,sv64.2.1) w) w) w) w else Tr.Join (fun(bv:Bool) w=>(if bv=true then Ld (.agg [.int .u32,.int .u32,.int .u32,.int .u32]) bq (fun(bx:Int×Int×Int×Int) w=>NewS [.int .u32 bx.1,.int .u32 bx.2.1,.int .u32 bx.2.2.1,.int .u32 bx.2.2.2] 252 1 (fun bz w=>AppP si243 sv64.2.1 bz (fun c0 w=>bk (sv64.1,c0) w) w) w) w else Ld tP nn (fun c1 w=>Ld tP nn (fun c2 w=> ∃c3,c2=some c3/\Ld tS (c3.add 4) (fun c4 w=>Ld (.agg [.int .u32,.int .u32,.int .u32,.int .u32]) bq (fun(c5:Int×Int×Int×Int) w=>NewS [.int .u32 c5.1,.int .u32 c5.2.1,.int .u32 c5.2.2.1,.int .u32 c5.2.2.2] 252 1 (fun c6 w=>LdAt tS (c3.add 4) c4 w/\LdAt tP nn c2 w/\LdAt tP nn c1 w/\AppP si243 c4 c6 (fun c7 w=>LdAt tP nn c1 w/\StF c1 4 (c7.v) (fun w=>bk (sv64.1,sv64.2.1) w) w) w) w) w) w) w) w.drew)) (fun c8=>(if(bo.1==21)=true then c8 (bo.1==21) w else(if(bo.1==20)=true then c8 (bo.1==20) w else c8 (bo.1==19) w))))) (fun c9=>(if((u32.wrap (bo.2.1.n:Int))==0)=true then St (bq.add 2) (.int .u32 (u32.wrap ((u32.wrap (i64.wrap ((bm.n:Int)-(bn.n:Int))))+2))) (fun w=>Ld tu32 (bq.add 2) (fun(ca:Int) w=>St (bq.add 3) (.int .u32 ca) (fun w=>c9 () w) w) w) w else Ld tP nn (fun cb w=>LdF cb 2 tS (fun cc w=>St (bq.add 2) (.int .u32 (u32.wrap (i64.wrap ((cc.c:Int)-(bo.2.1.c:Int))))) (fun w=>Ld tu32 (bq.add 2) (fun(cd:Int) w=>St (bq.add 3) (.int .u32 (u32.wrap (cd+(u32.wrap (bo.2.1.n:Int))))) (fun w=>c9 () w) w) w) w) w) w))) w) w)) w) w) w) w.drew)else b9 (sv64.1,sv64.2.1) w)) w) (⟨none,0,0⟩,⟨none,0,0⟩,(0:Int),be) w) w) w) w) w else b9 (⟨none,0,0⟩,⟨none,0,0⟩) w)) w) w)) (fun ce=>Ld tP nn (fun cf w=>LdF cf 2 tS (fun cg w=>(if(!(cg.a).isNone)=true then Ld tP nn (fun ch w=>CallF Tryz.prog 86 [.pointer batch1] [tu64] (fun(ci:Int) w=>LdAt tP nn ch w/\StF ch 3 (.int .u64 ci) (fun w=>ce () w) w) w) w.drew else ce () w)) w) w)
def F44 (batch1:Option Addr)(comparer2:Option Addr)(K:(Option Addr×IV)->WP)(w:World):Prop:= ∃p3,batch1=some p3/\Ld tS ((p3.add 0).add 0) (fun a0 w=> ∃p5,comparer2=some p5/\Ld tF (p5.add 0) (fun a1 w=> ∃p7,comparer2=some p7/\Ld tF (p7.add 3) (fun a2 w=>(CallF Tryz.prog 85 [.pointer batch1] [tu32] (fun(r9:Int) w=>LdAt tF (p7.add 3) a2 w/\LdAt tF (p5.add 0) a1 w/\LdAt tS ((p3.add 0).add 0) a0 w/\(MakeP si243 (0:Int) r9 (fun a3 w=>LdAt tF (p7.add 3) a2 w/\LdAt tF (p5.add 0) a1 w/\LdAt tS ((p3.add 0).add 0) a0 w/\Ones [(FV.enc a2),(FV.enc a1)]/\(NewP [(FV.enc a1),(FV.enc a2),a0.v,.int .u64 0,a3.v,.slice none 0 0,.slice none 0 0] 246 (fun a4 w=>NewP [.pointer none] 76 (fun a5 w=>St a5 (.pointer (some a4)) (fun w=>B44 batch1 a5 K w) w) w) w)/\(NewP [.pointer none] 76 (fun a6 w=>LdAt tF (p7.add 3) a2 w/\LdAt tF (p5.add 0) a1 w/\LdAt tS ((p3.add 0).add 0) a0 w/\NewP [(FV.enc a1),(FV.enc a2),a0.v,.int .u64 0,a3.v,.slice none 0 0,.slice none 0 0] 246 (fun a7 w=>St a6 (.pointer (some a7)) (fun w=>B44 batch1 a6 K w) w) w) w)) w)/\(NewP [.pointer none] 76 (fun a8 w=>LdAt tF (p7.add 3) a2 w/\LdAt tF (p5.add 0) a1 w/\LdAt tS ((p3.add 0).add 0) a0 w/\MakeP si243 (0:Int) r9 (fun a9 w=>LdAt tF (p7.add 3) a2 w/\LdAt tF (p5.add 0) a1 w/\LdAt tS ((p3.add 0).add 0) a0 w/\Ones [(FV.enc a2),(FV.enc a1)]/\NewP [(FV.enc a1),(FV.enc a2),a0.v,.int .u64 0,a9.v,.slice none 0 0,.slice none 0 0] 246 (fun aa w=>St a8 (.pointer (some aa)) (fun w=>B44 batch1 a8 K w) w) w) w) w)) w)/\(NewP [.pointer none] 76 (fun ab w=>LdAt tF (p7.add 3) a2 w/\LdAt tF (p5.add 0) a1 w/\LdAt tS ((p3.add 0).add 0) a0 w/\CallF Tryz.prog 85 [.pointer batch1] [tu32] (fun(ac:Int) w=>LdAt tF (p7.add 3) a2 w/\LdAt tF (p5.add 0) a1 w/\LdAt tS ((p3.add 0).add 0) a0 w/\MakeP si243 (0:Int) ac (fun ad w=>LdAt tF (p7.add 3) a2 w/\LdAt tF (p5.add 0) a1 w/\LdAt tS ((p3.add 0).add 0) a0 w/\Ones [(FV.enc a2),(FV.enc a1)]/\NewP [(FV.enc a1),(FV.enc a2),a0.v,.int .u64 0,ad.v,.slice none 0 0,.slice none 0 0] 246 (fun ae w=>St ab (.pointer (some ae)) (fun w=>B44 batch1 ab K w) w) w) w) w) w)) w) w) w.drew
theorem call44 {batch1 comparer2 K w}(h:F44 batch1 comparer2 K w):CallF Tryz.prog 44 [.pointer batch1,.pointer comparer2] [tP,tI] K w:=ctr Tryz.func44 A44 (by kernel_rfl) (by kernel_rfl) h
def A45 :=au Tryz.f45 [] []
def F45 (a1:Sl)(b2:Sl)(K:Int->WP)(w:World):Prop:=CallF Tryz.prog 93 [a1.v,b2.v] [ti64] (fun(r3:Int) w=>K r3 w) w
theorem call45 {a1 b2 K w}(h:F45 a1 b2 K w):CallF Tryz.prog 45 [a1.v,b2.v] [ti64] K w:=ctr Tryz.func45 A45 (by kernel_rfl) (by kernel_rfl) h
def A46 :=au Tryz.f46 [] []
def F46 (a1:Sl)(b2:Sl)(K:Bool->WP)(w:World):Prop:= ∃s3,RdB w a1.a a1.n s3/\ ∃s4,RdB w b2.a b2.n s4/\K (s3.toList==s4.toList) w
theorem call46 {a1 b2 K w}(h:F46 a1 b2 K w):CallF Tryz.prog 46 [a1.v,b2.v] [tB] K w:=ctr Tryz.func46 A46 (by kernel_rfl) (by kernel_rfl) h
def A53 :=au Tryz.f53 [] []
def F53 (b1:Option Addr)(o2:Option Addr)(K:IV->WP)(w:World):Prop:= ∃p3,b1=some p3/\Ld tS (p3.add 2) (fun a0 w=> ∃p5,b1=some p5/\Ld tS (p5.add 4) (fun a1 w=> ∃p7,b1=some p7/\Ld tF (p7.add 0) (fun a2 w=>CallF Tryz.prog 96 [.pointer o2] [tS] (fun r9 w=>LdAt tF (p7.add 0) a2 w/\LdAt tS (p5.add 4) a1 w/\LdAt tS (p3.add 2) a0 w/\CallF Tryz.prog 97 [.pointer o2] [tS] (fun a3 w=>LdAt tF (p7.add 0) a2 w/\LdAt tS (p5.add 4) a1 w/\LdAt tS (p3.add 2) a0 w/\Ones [(FV.enc a2)]/\NewP [.pointer b1,a0.v,a1.v,(FV.enc a2),.int .i64 (-1:Int),.slice none 0 0,.int .u64 0,.nilIface,r9.v,a3.v] 260 (fun a4 w=>decI (.iface 258 (.pointer (some a4))) (fun a5=>K a5 w)) w) w) w) w) w) w.drew
theorem call53 {b1 o2 K w}(h:F53 b1 o2 K w):CallF Tryz.prog 53 [.pointer b1,.pointer o2] [tI] K w:=ctr Tryz.func53 A53 (by kernel_rfl) (by kernel_rfl) h
def A54 :=au Tryz.f54 [] []
def F54 (s1:Sl×Sl×Sl×Int)(K:(ByteArray×ByteArray×Sl)->WP)(w:World):Prop:=NewP [s1.1.v,s1.2.1.v,s1.2.2.1.v,.int .i8 s1.2.2.2] 113 (fun n2 w=>NewP [.string ByteArray.empty,.string ByteArray.empty,.slice none 0 0] 44 (fun n3 w=>Ld tS (n2.add 0) (fun a0 w=> ∃s5,RdB w a0.a a0.n s5/\Ld tS (n2.add 1) (fun a1 w=> ∃s7,RdB w a1.a a1.n s7/\Ld tS (n2.add 2) (fun a2 w=>CallF Tryz.prog 98 [a2.v] [tS] (fun r9 w=>RdB w a1.a a1.n s7/\LdAt tS (n2.add 1) a1 w/\RdB w a0.a a0.n s5/\LdAt tS (n2.add 0) a0 w/\StL n3 [.string s5,.string s7,r9.v] (fun w=>Ld (.agg [.str,.str,.sl]) n3 (fun a3 w=>K (a3.1,a3.2.1,a3.2.2) w) w) w) w) w) w) w.drew) w) w
theorem call54 {s1 K w}(h:F54 s1 K w):CallF Tryz.prog 54 [.agg #[s1.1.v,s1.2.1.v,s1.2.2.1.v,.int .i8 s1.2.2.2]] [(.agg [.str,.str,.sl])] K w:=ctr Tryz.func54 A54 (by kernel_rfl) (by kernel_rfl) h
def A55 :=au Tryz.f55 [] []
def F55 (b1:Option Addr)(o2:Option Addr)(K:IV->WP)(w:World):Prop:=LdF b1 5 tS (fun a0 w=>(if((a0.n:Int)==0)=true then decI .nilIface (fun i5=>K i5 w)else LdF b1 0 tF (fun a1 w=>LdF b1 5 tS (fun a2 w=>CallF Tryz.prog 64 [(FV.enc a1),a2.v] [tP] (fun a3 w=>decI (.iface 223 (.pointer a3)) (fun a4=>K a4 w)) w) w) w.drew)) w
theorem call55 {b1 o2 K w}(h:F55 b1 o2 K w):CallF Tryz.prog 55 [.pointer b1,.pointer o2] [tI] K w:=ctr Tryz.func55 A55 (by kernel_rfl) (by kernel_rfl) h
def A56 :=au Tryz.f56 [] []
def F56 (b1:Option Addr)(o2:Option Addr)(K:IV->WP)(w:World):Prop:=LdF b1 6 tS (fun a0 w=>(if((a0.n:Int)==0)=true then decI .nilIface (fun i5=>K i5 w)else LdF b1 0 tF (fun a1 w=>LdF b1 6 tS (fun a2 w=>CallF Tryz.prog 64 [(FV.enc a1),a2.v] [tP] (fun a3 w=>decI (.iface 223 (.pointer a3)) (fun a4=>K a4 w)) w) w) w.drew)) w
theorem call56 {b1 o2 K w}(h:F56 b1 o2 K w):CallF Tryz.prog 56 [.pointer b1,.pointer o2] [tI] K w:=ctr Tryz.func56 A56 (by kernel_rfl) (by kernel_rfl) h
def A57 :=au Tryz.f57 [] []
def F57 (trailer1:Int)(K:Int->WP)(w:World):Prop:=K (u8.wrap trailer1) w
theorem call57 {trailer1 K w}(h:F57 trailer1 K w):CallF Tryz.prog 57 [.int .u64 trailer1] [tu8] K w:=ctr Tryz.func57 A57 (by kernel_rfl) (by kernel_rfl) h
def A58 :=au Tryz.f58 [(7,[(8,tB)])] []
def F58 (op1:Int)(got2:Bool)(last3:Int)(K:Bool->WP)(w:World):Prop:=Tr.Join (fun(s4:Bool) w=>(if s4=true then K true w else(if(op1==2)=true then(if got2=false then(if(last3==5)=false then K (last3==3) w else K true w)else K true w)else(if(op1==3)=true then(if got2=false then(if(last3==4)=false then K (last3==2) w else K true w)else K true w)else K false w)))) (fun a=>(if(op1==0)=true then a (op1==0) w else(if(op1==1)=true then a (op1==1) w else(if(op1==4)=true then a (op1==4) w else a (op1==5) w))))
theorem call58 {op1 got2 last3 K w}(h:F58 op1 got2 last3 K w):CallF Tryz.prog 58 [.int .u8 op1,.bool got2,.int .u8 last3] [tB] K w:=ctr Tryz.func58 A58 (by kernel_rfl) (by kernel_rfl) h
def A59 :=au Tryz.f59 [(7,[])] [(25,[(120,ti64)])]
def F59 (m1:Option Addr)(cmp2:FV)(transformer3:IV)(bufs4:Option Addr)(iters5:Sl)(K:Unit->WP)(w:World):Prop:=Ones [(IV.enc transformer3)]/\ ∃p6,m1=some p6/\StL p6 [.pointer bufs4,.slice none 0 0,.slice none 0 0,(IV.enc transformer3),.slice none 0 0,.slice none 0 0,.slice none 0 0,.int .i8 0,.nilIface,.int .i8 0,.nilIface,.int .i8 0,.slice none 0 0,.pointer none,.nilIface,.int .i8 0,.slice none 0 0,.pointer none,.nilIface,.int .i8 0,.slice none 0 0,.pointer none,.nilIface,.int .i8 0,.slice none 0 0,.pointer none,.nilIface,.int .i8 0,.slice none 0 0,.pointer none,.nilIface,.int .i8 0,.slice none 0 0,.pointer none,.nilIface,.int .i8 0,.slice none 0 0,.pointer none,.nilIface,.int .i8 0,.slice none 0 0,.pointer none,.nilIface,.int .i8 0,.slice none 0 0,.pointer none,.nilIface,.int .i8 0,.slice none 0 0,.pointer none,.pointer none,.int .i64 0,.pointer none,.int .i64 0,.pointer none,.int .i64 0,.pointer none,.int .i64 0,.pointer none,.int .i64 0,.pointer none,.int .i64 0,.pointer none,.int .i64 0,.pointer none,.int .i64 0,.pointer none,.int .i64 0,.pointer none,.int .i64 0] (fun w=>LdF m1 0 tP (fun a0 w=> ∃p9,a0=some p9/\St ((p9.add 2).add 0) (FV.enc cmp2) (fun w=>LdF m1 0 tP (fun a1 w=>LdF a1 1 tS (fun a2 w=>LdF m1 0 tP (fun a3 w=> ∃a4,a3=some a4/\Ld tS ((a4.add 2).add 2) (fun a5 w=>Tr.Join (fun(a6:Unit) w=>LdF m1 0 tP (fun a7 w=>LdF a7 1 tS (fun a8 w=>Tr.Loop (fun(a9:Int->WP) (s24:Int) w=>(if(decide (s24<(a8.n:Int)))=true then LdF m1 0 tP (fun aa w=>LdF aa 1 tS (fun ab w=>(0<=s24/\s24<(iters5.n:Int))/\(∃ac,iters5.a=some ac/\Ld tI (ac.add (s24.toNat*1)) (fun ad w=>Ones [(IV.enc ad)]/\(0<=s24/\s24<(ab.n:Int))/\(∃ae,ab.a=some ae/\StL (ae.add (s24.toNat*4)) [(IV.enc ad),.int .i8 0,.slice none 0 0,.pointer none] (fun w=>a9 (i64.wrap (s24+1)) w) w)) w)) w) w.drew else K () w)) (0:Int) w) w) w) (fun af=>(if(decide ((iters5.n:Int)<=(10:Int)))=true then LdF m1 0 tP (fun ag w=> ∃ah,m1=some ah/\(0<=(iters5.n:Int)/\(iters5.n:Int)<=(10:Int))/\StF ag 1 (.slice (some ((ah.add 10).add 0)) iters5.n 10) (fun w=>LdF m1 0 tP (fun ai w=> ∃aj,m1=some aj/\(0<=(0:Int)/\(0:Int)<=(10:Int))/\ ∃ak,ai=some ak/\St ((ak.add 2).add 2) (.slice (some ((aj.add 10).add 40)) 0 10) (fun w=>af () w) w) w.drew) w) w.drew else(if(decide ((iters5.n:Int)<=(a2.c:Int)))=true then LdF m1 0 tP (fun al w=>(0<=(iters5.n:Int)/\(iters5.n:Int)<=(a2.c:Int))/\StF al 1 (.slice a2.a iters5.n a2.c) (fun w=>LdF m1 0 tP (fun am w=>(0<=(0:Int)/\(0:Int)<=(a5.c:Int))/\ ∃an,am=some an/\St ((an.add 2).add 2) (.slice a5.a 0 a5.c) (fun w=>af () w) w) w.drew) w) w.drew else∃ao,m1=some ao/\Ld tP (ao.add 0) (fun ap w=>MakeP si153 (iters5.n:Int) (iters5.n:Int) (fun aq w=>LdAt tP (ao.add 0) ap w/\StF ap 1 (aq.v) (fun w=> ∃ar,m1=some ar/\Ld tP (ar.add 0) (fun au w=>MakeP si154 (0:Int) (iters5.n:Int) (fun av w=>LdAt tP (ar.add 0) au w/\ ∃ax,au=some ax/\St ((ax.add 2).add 2) (av.v) (fun w=>af () w) w) w) w.drew) w) w) w.drew)))) w) w) w) w.drew) w) w) w
theorem call59 {m1 cmp2 transformer3 bufs4 iters5 K w}(h:F59 m1 cmp2 transformer3 bufs4 iters5 K w):CallF Tryz.prog 59 [.pointer m1,(FV.enc cmp2),(IV.enc transformer3),.pointer bufs4,iters5.v] [] K w:=ctr Tryz.func59 A59 (by kernel_rfl) (by kernel_rfl) h
def A60 :=au Tryz.f60 [] []
def F60 (i1:Option Addr)(cmp2:FV)(split3:FV)(iter4:IV)(lower_5:Sl)(upper_6:Sl)(hasPrefix7:Option Addr)(prefix8:Option Addr)(K:Unit->WP)(w:World):Prop:=Ones [(FV.enc split3),(FV.enc cmp2),(IV.enc iter4)]/\ ∃p9,i1=some p9/\StL p9 [(IV.enc iter4),.pointer none,(FV.enc cmp2),(FV.enc split3),lower_5.v,upper_6.v,.pointer hasPrefix7,.pointer prefix8,.int .i8 0] (fun w=>K () w) w
theorem call60 {i1 cmp2 split3 iter4 lower_5 upper_6 hasPrefix7 prefix8 K w}(h:F60 i1 cmp2 split3 iter4 lower_5 upper_6 hasPrefix7 prefix8 K w):CallF Tryz.prog 60 [.pointer i1,(FV.enc cmp2),(FV.enc split3),(IV.enc iter4),lower_5.v,upper_6.v,.pointer hasPrefix7,.pointer prefix8] [] K w:=ctr Tryz.func60 A60 (by kernel_rfl) (by kernel_rfl) h
def A61 :=au Tryz.f61 [] []
def F61 (i1:Option Addr)(comparer2:Option Addr)(iter3:IV)(equal4:IV)(reducer5:FV)(bufs6:Option Addr)(K:Unit->WP)(w:World):Prop:=LdF comparer2 1 tF (fun a w=>Ones [(FV.enc reducer5),(IV.enc equal4),(IV.enc iter3),(FV.enc a)]/\ ∃p9,i1=some p9/\StL p9 [.pointer bufs6,.pointer comparer2,(FV.enc a),(IV.enc iter3),.pointer none,.int .i8 0,.slice none 0 0,.slice none 0 0,.slice none 0 0,.int .i8 0,(IV.enc equal4),(FV.enc reducer5)] (fun w=>K () w) w) w
theorem call61 {i1 comparer2 iter3 equal4 reducer5 bufs6 K w}(h:F61 i1 comparer2 iter3 equal4 reducer5 bufs6 K w):CallF Tryz.prog 61 [.pointer i1,.pointer comparer2,(IV.enc iter3),(IV.enc equal4),(FV.enc reducer5),.pointer bufs6] [] K w:=ctr Tryz.func61 A61 (by kernel_rfl) (by kernel_rfl) h
def A63 :=au Tryz.f63 [] []
def F63 (cur1:Sl)(x2:Sl)(K:Sl->WP)(w:World):Prop:=K cur1 w
theorem call63 {cur1 x2 K w}(h:F63 cur1 x2 K w):CallF Tryz.prog 63 [cur1.v,x2.v] [tS] K w:=ctr Tryz.func63 A63 (by kernel_rfl) (by kernel_rfl) h
def A64 :=au Tryz.f64 [] []
def F64 (cmp1:FV)(spans2:Sl)(K:(Option Addr)->WP)(w:World):Prop:=NewP [.nilFunc,.slice none 0 0,.int .i64 0] 269 (fun n3 w=>CallF Tryz.prog 99 [.pointer (some n3),(FV.enc cmp1),spans2.v] [] (fun r4 w=>K (some n3) w) w) w
theorem call64 {cmp1 spans2 K w}(h:F64 cmp1 spans2 K w):CallF Tryz.prog 64 [(FV.enc cmp1),spans2.v] [tP] K w:=ctr Tryz.func64 A64 (by kernel_rfl) (by kernel_rfl) h
def A65 :=au Tryz.f65 [] [(8,[(3,tS),(8,ti64)])]
def F65 (l1:Sl)(K:Sl->WP)(w:World):Prop:=Tr.Loop (fun(a0:(Sl×Int)->WP) (s2:Sl×Int) w=>(if(decide (s2.2<(l1.n:Int)))=true then(0<=s2.2/\s2.2<(l1.n:Int))/\(∃e4,l1.a=some e4/\Ld (.agg [.str,.str,.sl]) (e4.add (s2.2.toNat*3)) (fun x5 w=>NewP [.string ByteArray.empty,.string ByteArray.empty,.slice none 0 0] 44 (fun n6 w=>StL n6 [.string x5.1,.string x5.2.1,x5.2.2.v] (fun w=>Ld (.agg [.str,.str,.sl]) n6 (fun x7 w=>CallF Tryz.prog 36 [.agg #[.string x7.1,.string x7.2.1,x7.2.2.v]] [(.agg [.sl,.sl,.sl,.int .i8])] (fun(r8:Sl×Sl×Sl×Int) w=>NewS [r8.1.v,r8.2.1.v,r8.2.2.1.v,.int .i8 r8.2.2.2] 113 1 (fun l9 w=>AppP si193 s2.1 l9 (fun a1 w=>a0 (a1,(i64.wrap (s2.2+1))) w) w) w) w) w) w) w) w)else K s2.1 w)) (⟨none,0,0⟩,(0:Int)) w
theorem call65 {l1 K w}(h:F65 l1 K w):CallF Tryz.prog 65 [l1.v] [tS] K w:=ctr Tryz.func65 A65 (by kernel_rfl) (by kernel_rfl) h
def A66 :=au Tryz.f66 [] [(8,[(3,tS),(8,ti64)])]
def F66 (l1:Sl)(K:Sl->WP)(w:World):Prop:=Tr.Loop (fun(a0:(Sl×Int)->WP) (s2:Sl×Int) w=>(if(decide (s2.2<(l1.n:Int)))=true then(0<=s2.2/\s2.2<(l1.n:Int))/\(∃e4,l1.a=some e4/\Ld (.agg [.int .u64,.str,.str]) (e4.add (s2.2.toNat*3)) (fun(x5:Int×ByteArray×ByteArray) w=>NewP [.int .u64 0,.string ByteArray.empty,.string ByteArray.empty] 49 (fun n6 w=>StL n6 [.int .u64 x5.1,.string x5.2.1,.string x5.2.2] (fun w=>Ld tu64 (n6.add 0) (fun(a1:Int) w=>Ld tT (n6.add 1) (fun a2 w=>Ld tT (n6.add 2) (fun a3 w=>CallF Tryz.prog 100 [.string a2] [tS] (fun a4 w=>LdAt tT (n6.add 2) a3 w/\LdAt tu64 (n6.add 0) a1 w/\CallF Tryz.prog 100 [.string a3] [tS] (fun a5 w=>LdAt tu64 (n6.add 0) a1 w/\NewS [.int .u64 a1,a4.v,a5.v] 267 1 (fun a6 w=>AppP si109 s2.1 a6 (fun a7 w=>a0 (a7,(i64.wrap (s2.2+1))) w) w) w) w) w) w) w) w.drew) w) w) w)else K s2.1 w)) (⟨none,0,0⟩,(0:Int)) w
theorem call66 {l1 K w}(h:F66 l1 K w):CallF Tryz.prog 66 [l1.v] [tS] K w:=ctr Tryz.func66 A66 (by kernel_rfl) (by kernel_rfl) h
def A68 :=au Tryz.f68 [] []
def F68 (s1:Option Addr)(emit2:FV)(K:IV->WP)(w:World):Prop:=Ones [(FV.enc emit2)]/\NewP [.nilFunc,.slice none 0 0,.slice none 0 0,.slice none 0 0] 275 (fun n3 w=>StL n3 [(FV.enc emit2),.slice none 0 0,.slice none 0 0,.slice none 0 0] (fun w=>CallF Tryz.prog 101 [.pointer (some n3),.pointer s1] [tI] (fun r4 w=>decI (IV.enc r4) (fun i5=>K i5 w)) w) w) w
theorem call68 {s1 emit2 K w}(h:F68 s1 emit2 K w):CallF Tryz.prog 68 [.pointer s1,(FV.enc emit2)] [tI] K w:=ctr Tryz.func68 A68 (by kernel_rfl) (by kernel_rfl) h
def A69 :=au Tryz.f69 [] []
def F69 (k1:Sl×Int)(v2:Sl)(a3:Addr)(K:IV->WP)(w:World):Prop:=NewP [k1.1.v,.int .u64 k1.2] 97 (fun n4 w=>Ld (.agg [.sl,.int .u64]) n4 (fun(x5:Sl×Int) w=>CallF Tryz.prog 26 [.agg #[x5.1.v,.int .u64 x5.2]] [(.agg [.str,.int .u64,.str])] (fun(r6:ByteArray×Int×ByteArray) w=>NewP [.string ByteArray.empty,.int .u64 0,.string ByteArray.empty] 94 (fun n7 w=>StL n7 [.string r6.1,.int .u64 r6.2.1,.string r6.2.2] (fun w=> ∃s8,RdB w v2.a v2.n s8/\St (n7.add 2) (.string s8) (fun w=>Ld tS a3 (fun x9 w=>Ld (.agg [.str,.int .u64,.str]) n7 (fun(a0:ByteArray×Int×ByteArray) w=>NewS [.string a0.1,.int .u64 a0.2.1,.string a0.2.2] 94 1 (fun a1 w=>AppP si24 x9 a1 (fun a2 w=>St a3 (a2.v) (fun w=>decI .nilIface (fun a4=>K a4 w)) w) w) w) w) w) w) w) w) w) w) w
theorem call69 {k1 v2 a3 K w}(h:F69 k1 v2 a3 K w):CallF Tryz.prog 69 [.agg #[k1.1.v,.int .u64 k1.2],v2.v,.pointer (some a3)] [tI] K w:=ctr Tryz.func69 A69 (by kernel_rfl) (by kernel_rfl) h
def A70 :=au Tryz.f70 [(21,[])] [(28,[(1,tS)]),(53,[(1,tS)])]
def F70 (ik1:Sl×Int)(v2:Sl)(keysDst3:Sl)(K:((Sl×Sl×Sl×Int)×IV)->WP)(w:World):Prop:=NewP [ik1.1.v,.int .u64 ik1.2] 97 (fun n4 w=>NewP [.slice none 0 0,.slice none 0 0,.slice none 0 0,.int .i8 0] 113 (fun n5 w=>NewP [.slice none 0 0,.slice none 0 0,.slice none 0 0,.int .i8 0] 113 (fun n6 w=>Ld tS (n4.add 0) (fun a0 w=>St (n6.add 0) (a0.v) (fun w=>Ld (.agg [.sl,.int .u64]) n4 (fun(x8:Sl×Int) w=>CallF Tryz.prog 103 [.agg #[x8.1.v,.int .u64 x8.2]] [tu8] (fun(r9:Int) w=>CallF Tryz.prog 102 [.int .u8 r9,v2.v] [tS,tS,tB] (fun(a1:Sl×Sl×Bool) w=>St (n6.add 1) (a1.1.v) (fun w=>(if(!a1.2.2)=true then CallF Tryz.prog 104 [.string (⟨#[112,101,98,98,108,101,58,32,117,110,97,98,108,101,32,116,111,32,100,101,99,111,100,101,32,114,97,110,103,101,32,107,101,121,32,101,110,100,32,102,114,111,109,32,37,115]⟩),.slice none 0 0] [tI] (fun a2 w=>StL n5 [.slice none 0 0,.slice none 0 0,.slice none 0 0,.int .i8 0] (fun w=>Ld (.agg [.sl,.sl,.sl,.int .i8]) n5 (fun(a3:Sl×Sl×Sl×Int) w=>decI (IV.enc a2) (fun a4=>K ((a3.1,a3.2.1,a3.2.2.1,a3.2.2.2),a4) w)) w) w) w else St (n6.add 2) (keysDst3.v) (fun w=>Tr.Join (fun(a5:Unit) w=>Ld (.agg [.sl,.sl,.sl,.int .i8]) n6 (fun(a6:Sl×Sl×Sl×Int) w=>StL n5 [a6.1.v,a6.2.1.v,a6.2.2.1.v,.int .i8 a6.2.2.2] (fun w=>Ld (.agg [.sl,.sl,.sl,.int .i8]) n5 (fun(a7:Sl×Sl×Sl×Int) w=>decI .nilIface (fun a8=>K ((a7.1,a7.2.1,a7.2.2.1,a7.2.2.2),a8) w)) w) w) w) (fun a9=>Ld (.agg [.sl,.int .u64]) n4 (fun(aa:Sl×Int) w=>CallF Tryz.prog 103 [.agg #[aa.1.v,.int .u64 aa.2]] [tu8] (fun(ab:Int) w=>(if(ab==21)=true then Tr.Loop (fun(ac:Sl->WP) (s21:Sl) w=>(if(decide ((s21.n:Int)>0))=true then NewP [.slice none 0 0,.slice none 0 0] 282 (fun ad w=>CallF Tryz.prog 105 [s21.v] [(.agg [.sl,.sl]),tS,tB] (fun(ae:(Sl×Sl)×Sl×Bool) w=>StL ad [ae.1.1.v,ae.1.2.v] (fun w=>(if(!ae.2.2)=true then CallF Tryz.prog 104 [.string (⟨#[112,101,98,98,108,101,58,32,117,110,97,98,108,101,32,116,111,32,100,101,99,111,100,101,32,114,97,110,103,101,32,107,101,121,32,115,117,102,102,105,120,45,118,97,108,117,101,32,116,117,112,108,101]⟩),.slice none 0 0] [tI] (fun af w=>StL n5 [.slice none 0 0,.slice none 0 0,.slice none 0 0,.int .i8 0] (fun w=>Ld (.agg [.sl,.sl,.sl,.int .i8]) n5 (fun(ag:Sl×Sl×Sl×Int) w=>decI (IV.enc af) (fun ah=>K ((ag.1,ag.2.1,ag.2.2.1,ag.2.2.2),ah) w)) w) w) w else Ld tS (n6.add 2) (fun ai w=>Ld tu64 (n4.add 1) (fun(aj:Int) w=>Ld tS (ad.add 0) (fun ak w=>Ld tS (ad.add 1) (fun al w=>NewS [.int .u64 aj,ak.v,al.v] 267 1 (fun am w=>AppP si109 ai am (fun an w=>St (n6.add 2) (an.v) (fun w=>ac ae.2.1 w) w) w) w) w) w) w) w)) w) w) w else a9 () w)) a1.2.1 w else(if(ab==20)=true then Tr.Loop (fun(ao:Sl->WP) (s34:Sl) w=>(if(decide ((s34.n:Int)>0))=true then CallF Tryz.prog 106 [s34.v] [tS,tS,tB] (fun(ap:Sl×Sl×Bool) w=>(if(!ap.2.2)=true then CallF Tryz.prog 104 [.string (⟨#[112,101,98,98,108,101,58,32,117,110,97,98,108,101,32,116,111,32,100,101,99,111,100,101,32,114,97,110,103,101,32,107,101,121,32,117,110,115,101,116,32,115,117,102,102,105,120]⟩),.slice none 0 0] [tI] (fun aq w=>StL n5 [.slice none 0 0,.slice none 0 0,.slice none 0 0,.int .i8 0] (fun w=>Ld (.agg [.sl,.sl,.sl,.int .i8]) n5 (fun(ar:Sl×Sl×Sl×Int) w=>decI (IV.enc aq) (fun au=>K ((ar.1,ar.2.1,ar.2.2.1,ar.2.2.2),au) w)) w) w) w else Ld tS (n6.add 2) (fun av w=>Ld tu64 (n4.add 1) (fun(ax:Int) w=>NewS [.int .u64 ax,ap.1.v,.slice none 0 0] 267 1 (fun ay w=>AppP si109 av ay (fun az w=>St (n6.add 2) (az.v) (fun w=>ao ap.2.1 w) w) w) w) w) w)) w else a9 () w)) a1.2.1 w else(if(ab==19)=true then(if(decide ((a1.2.1.n:Int)>0))=true then CallF Tryz.prog 104 [.string (⟨#[112,101,98,98,108,101,58,32,82,65,78,71,69,75,69,89,68,69,76,115,32,109,117,115,116,32,110,111,116,32,99,111,110,116,97,105,110,32,97,100,100,105,116,105,111,110,97,108,32,100,97,116,97]⟩),.slice none 0 0] [tI] (fun b w=>StL n5 [.slice none 0 0,.slice none 0 0,.slice none 0 0,.int .i8 0] (fun w=>Ld (.agg [.sl,.sl,.sl,.int .i8]) n5 (fun(b0:Sl×Sl×Sl×Int) w=>decI (IV.enc b) (fun b1=>K ((b0.1,b0.2.1,b0.2.2.1,b0.2.2.2),b1) w)) w) w) w else Ld tS (n6.add 2) (fun b2 w=>Ld tu64 (n4.add 1) (fun(b3:Int) w=>NewS [.int .u64 b3,.slice none 0 0,.slice none 0 0] 267 1 (fun b4 w=>AppP si109 b2 b4 (fun b5 w=>St (n6.add 2) (b5.v) (fun w=>a9 () w) w) w) w) w) w)else CallF Tryz.prog 104 [.string (⟨#[112,101,98,98,108,101,58,32,37,115,32,105,115,32,110,111,116,32,97,32,114,97,110,103,101,32,107,101,121]⟩),.slice none 0 0] [tI] (fun b6 w=>StL n5 [.slice none 0 0,.slice none 0 0,.slice none 0 0,.int .i8 0] (fun w=>Ld (.agg [.sl,.sl,.sl,.int .i8]) n5 (fun(b7:Sl×Sl×Sl×Int) w=>decI (IV.enc b6) (fun b8=>K ((b7.1,b7.2.1,b7.2.2.1,b7.2.2.2),b8) w)) w) w) w)))) w) w)) w)) w) w) w) w) w) w) w) w) w
theorem call70 {ik1 v2 keysDst3 K w}(h:F70 ik1 v2 keysDst3 K w):CallF Tryz.prog 70 [.agg #[ik1.1.v,.int .u64 ik1.2],v2.v,keysDst3.v] [(.agg [.sl,.sl,.sl,.int .i8]),tI] K w:=ctr Tryz.func70 A70 (by kernel_rfl) (by kernel_rfl) h
def A71 :=au Tryz.f71 [] []
def F71 (e1:ByteArray×Int×ByteArray)(K:(Sl×Int)->WP)(w:World):Prop:=NewP [.string e1.1,.int .u64 e1.2.1,.string e1.2.2] 94 (fun n2 w=>NewP [.slice none 0 0,.int .u64 0] 97 (fun n3 w=>Ld tT (n2.add 0) (fun a0 w=>BytesP 5 a0 (fun b5 w=>Ld tu64 (n2.add 1) (fun(a1:Int) w=>StL n3 [b5.v,.int .u64 a1] (fun w=>Ld (.agg [.sl,.int .u64]) n3 (fun(r7:Sl×Int) w=>K (r7.1,r7.2) w) w) w) w) w) w) w) w
theorem call71 {e1 K w}(h:F71 e1 K w):CallF Tryz.prog 71 [.agg #[.string e1.1,.int .u64 e1.2.1,.string e1.2.2]] [(.agg [.sl,.int .u64])] K w:=ctr Tryz.func71 A71 (by kernel_rfl) (by kernel_rfl) h
end
end Go.Proofs.YtpkoddfamelnhaaGreatDoor
