/- Part 16 of the proof of fnBatchHistory_card. Conditions: none. -/
import Derived.Test.YtpkoddfamelnhaaGreatDoorH15
import Derived.Lib.Strings
set_option linter.unusedVariables false
set_option linter.unusedSimpArgs false
namespace Go.Tr
theorem toList_beq (s t:ByteArray):(s.toList==t.toList)=decide (s=t):=by
 rw[Lib.toList_data,Lib.toList_data]
 by_cases h:s=t
 ·subst h;simp
 ·rw[decide_eq_false h]
  have:s.data.toList≠t.data.toList:=fun e=>h (by cases s;cases t;simp only[ByteArray.mk.injEq];exact Array.ext' e)
  simpa using this
end Go.Tr
namespace Go.Proofs.YtpkoddfamelnhaaGreatDoor
open Go Go.Tr
set_option maxRecDepth 100000
abbrev eqV :Value:=.func (.func 46) #[] #[]
theorem callEq {a b:Sl}{s t:ByteArray}{w}{K:Bool->WP}(ha:RdB w a.a a.n s)(hb:RdB w b.a b.n t)(k:K (decide (s=t)) w):
  CallV Tryz.prog eqV [.slice a.a a.n a.c,.slice b.a b.n b.c] [.one .bool] K w:=by
 refine CallV_run (call46 ?_)
 unfold F46
 refine⟨s,ha,t,hb,?_⟩
 rw[toList_beq];exact k
def ded (sb:KC->ByteArray):Option ByteArray->List KC->List KC
 |_,[]=>[]
 |p,k::l=>if p=some (sb k)then ded sb p l else k::ded sb (some (sb k)) l
def dedL (sb:KC->ByteArray):Option ByteArray->List KC->Option ByteArray
 |p,[]=>p
 |p,k::l=>if p=some (sb k)then dedL sb p l else dedL sb (some (sb k)) l
theorem ded_append (sb:KC->ByteArray)(k:KC): ∀(l:List KC) (p:Option ByteArray),ded sb p (l++[k])=ded sb p l++(if dedL sb p l=some (sb k)then []else [k])
 | [],p=>by by_cases h:p=some (sb k)<;>simp[ded,dedL,h]
 |x::l,p=>by
  simp only[List.cons_append,ded,dedL]
  split
  ·exact ded_append sb k l p
  ·rw[ded_append sb k l];simp
theorem dedL_append (sb:KC->ByteArray)(k:KC): ∀(l:List KC) (p:Option ByteArray),dedL sb p (l++[k])=some (sb k)
 | [],p=>by simp only[List.nil_append,dedL];split<;>simp_all
 |x::l,p=>by
  simp only[List.cons_append,dedL]
  split<;>exact dedL_append sb k l _
theorem ded_len (sb:KC->ByteArray): ∀(l:List KC) (p:Option ByteArray),(ded sb p l).length<=l.length
 | [],p=>by simp[ded]
 |x::l,p=>by
  simp only[ded]
  split
  ·have:=ded_len sb l p;simp;omega
  ·have:=ded_len sb l (some (sb x));simp;omega
theorem take_succ' {l:List KC}{i:Nat}(h:i<l.length):l.take (i+1)=l.take i++[l[i]]:=by rw[List.take_add_one,List.getElem?_eq_getElem h];rfl
def over (out l:List KC)(i:Nat)(g:Nat->List Value):Prop:=(∀(j:Nat) (h:j<out.length),g j=kcells out[j])/\ ∀(j:Nat) (h:j<l.length),i<=j->g j=kcells l[j]
theorem coal2 {D} {sb : KC -> ByteArray} {kb a : Addr} {K9 : Sl} {l : List KC} {R} {w : World} {J : Sl × Bool × Int -> WP} (hn : K9.n = l.length) (hka : 0 < l.length -> K9.a = some a) (hc : K9.n <= K9.c) (hlen : l.length < 2^32) (hb : ∀ k ∈ l, BytesAt D k.2.1 (sb k))
  (h:Sat w (Arr kb [cmpV,.slice K9.a 0 K9.c]::Rws a 3 l.length (fun j=>kcells (l.getD j kd))::Own D::R))
  (k : ∀ (s : Sl × Bool × Int) (m : Nat) (g : Nat -> List Value) w', s.2.2 = l.length -> (s.2.1 = false -> ded sb none l = l /\ m = 0) -> (s.2.1 = true -> m = (ded sb none l).length) -> over (ded sb none l) l l.length g -> (∀ j, j < l.length -> (g j).length = 3) ->
   Sat w' (Arr kb [cmpV,.slice K9.a m K9.c]::Rws a 3 l.length g::Own D::R)->J s w'):
  Tr.Loop (fun(next14:(Sl×Bool×Int)->WP) (s13:Sl×Bool×Int) w=>(if(decide (s13.2.2<(K9.n:Int)))=true then Tr.Join (fun(s15:Bool) w=>(if s15=true then(if(!s13.2.1)=true then∃p17,(some kb)=some p17/\Ld (.one .sl) (p17.add 1) (fun(Keys18:Sl) w=>(0<=s13.2.2/\s13.2.2<=(Keys18.c:Int))/\ ∃p19,(some kb)=some p19/\St (p19.add 1) (.slice Keys18.a s13.2.2.toNat Keys18.c) (fun w=>next14 (s13.1,true,(IntKind.i64.wrap (s13.2.2+(1:Int)))) w) w) w else next14 (s13.1,s13.2.1,(IntKind.i64.wrap (s13.2.2+(1:Int)))) w)else(0<=s13.2.2/\s13.2.2<(K9.n:Int))/\(∃e20,K9.a=some e20/\Ld (.one .sl) ((e20.add (s13.2.2.toNat*3)).add 1) (fun(Suffix21:Sl) w=>(if s13.2.1=true then∃p22,(some kb)=some p22/\Ld (.one .sl) (p22.add 1) (fun(Keys23:Sl) w=>(0<=s13.2.2/\s13.2.2<(K9.n:Int))/\(∃e24,K9.a=some e24/\Ld (.agg [.int .u64,.sl,.sl]) (e24.add (s13.2.2.toNat*3)) (fun(x25:Int×Sl×Sl) w=>NewS [.int .u64 x25.1,.slice x25.2.1.a x25.2.1.n x25.2.1.c,.slice x25.2.2.a x25.2.2.n x25.2.2.c] 267 1 (fun(l26:Sl) w=>LdAt (.one .sl) (p22.add 1) Keys23 w/\AppP si109 Keys23 l26 (fun(a27:Sl) w=> ∃p28,(some kb)=some p28/\St (p28.add 1) (.slice a27.a a27.n a27.c) (fun w=>next14 (Suffix21,s13.2.1,(IntKind.i64.wrap (s13.2.2+(1:Int)))) w) w) w) w) w)) w.drew else next14 (Suffix21,s13.2.1,(IntKind.i64.wrap (s13.2.2+(1:Int)))) w)) w))) (fun J_16=>(if(decide (s13.2.2>(0:Int)))=true then(0<=s13.2.2/\s13.2.2<(K9.n:Int))/\(∃e29,K9.a=some e29/\Ld (.one .sl) ((e29.add (s13.2.2.toNat*3)).add 1) (fun(Suffix30:Sl) w=>CallV Tryz.prog eqV [.slice s13.1.a s13.1.n s13.1.c,.slice Suffix30.a Suffix30.n Suffix30.c] [(.one .bool)] (fun(r31:Bool) w=>J_16 r31 w) w) w)else J_16 false w))else J s13 w)) (⟨none,0,0⟩,false,(0:Int)) w:=by
 refine⟨fun q (s:Sl×Bool×Int) w=> ∃(i:Nat) (m:Nat) (g:Nat->List Value),s.2.2=(i:Int)/\i<=l.length/\q=l.length-i/\(0<i-> ∃p,dedL sb none (l.take i)=some p/\BytesAt D s.1 p)/\(s.2.1=false->ded sb none (l.take i)=l.take i/\m=0)/\
   (s.2.1=true->m=(ded sb none (l.take i)).length/\m<i)/\over (ded sb none (l.take i)) l i g/\(∀j,j<l.length->(g j).length=3)/\Sat w (Arr kb [cmpV,.slice K9.a m K9.c]::Rws a 3 l.length g::Own D::R),
  ⟨_,0,0,_,rfl,by omega,rfl,by omega,fun _=>⟨rfl,rfl⟩,(by simp),⟨fun j h=>by simp[ded]at h,fun j h _=>?_⟩,fun j hj=>rfl,h⟩,?_⟩
 ·rw[List.getD_eq_getElem?_getD,List.getElem?_eq_getElem h];rfl
 clear h
 rintro q ⟨ps,sh,si⟩ w ⟨i,m,g,e1,hi,hq,hp,hns,hsh,hov,hg3,h⟩
 dsimp only at e1 hp hns hsh|-
 subst e1
 refine ifd (fun hlt=>?_) (fun hge=>?_)
 ·have hil : i < l.length := by omega
  have ka:=hka om
  have ew:IntKind.i64.wrap ((i:Int)+1)=((i+1:Nat):Int):=w1 om
  rw[ew,Int.toNat_natCast]
  have hgi:=hov.2 i hil (Nat.le_refl _)
  have htk:=take_succ' hil
  have hbi:=hb l[i] (List.getElem_mem hil)
  refine⟨fun(b:Bool) w=>(b=true↔dedL sb none (l.take i)=some (sb l[i]))/\Sat w (Arr kb [cmpV,.slice K9.a m K9.c]::Rws a 3 l.length g::Own D::R),?_,?_⟩
  ·rintro b w ⟨hb',h⟩
   refine ifb (fun e=>?_) (fun e=>?_)
   ·have hd:ded sb none (l.take (i+1))=ded sb none (l.take i):=by rw[htk,ded_append,if_pos (hb'.1 e),List.append_nil]
    have hdl:dedL sb none (l.take (i+1))=some (sb l[i]):=by rw[htk,dedL_append]
    have hov':over (ded sb none (l.take (i+1))) l (i+1) g:=by rw[hd];exact⟨hov.1,fun j h1 h2=>hov.2 j h1 om⟩
    have hp': ∃p,dedL sb none (l.take (i+1))=some p/\BytesAt D ps p:=by
     by_cases e0:i=0
     ·subst e0;have:=hb'.1 e;simp[dedL]at this
     ·obtain⟨p,hp1,hp2⟩:=hp om
      rw[hb'.1 e]at hp1
      injection hp1 with hp1
      exact⟨_,hdl,hp1▸hp2⟩
    refine ifn (fun es=>?_) (fun es=>?_)
    ·obtain⟨f1,f2⟩:=hns es
     refine⟨_,rfl,Ld1 h ⟨⟨by omega,by dsimp only;omega⟩,_,rfl,St1 h rfl fun w h=>?_⟩⟩
     refine⟨_,by omega,i+1,i,g,rfl,by omega,rfl,fun _=>hp',(by simp),fun _=>⟨?_,by omega⟩,hov',hg3,h⟩
     rw[hd,f1];simp;omega
    ·obtain⟨f1,f2⟩:=hsh es
     exact⟨_,by omega,i+1,m,g,rfl,by omega,rfl,fun _=>hp',(fun h=>by rw[es]at h;cases h),fun _=>⟨by rw[hd];exact f1,by omega⟩,hov',hg3,h⟩
   ·have hne: ¬dedL sb none (l.take i)=some (sb l[i]):=fun hh=>by have:=hb'.2 hh;rw[e]at this;cases this
    have hd:ded sb none (l.take (i+1))=ded sb none (l.take i)++[l[i]]:=by rw[htk,ded_append,if_neg hne]
    have hdl:dedL sb none (l.take (i+1))=some (sb l[i]):=by rw[htk,dedL_append]
    have r1:=rowCell (v:=.slice l[i].2.1.a l[i].2.1.n l[i].2.1.c) h.t1 hil (i:=1) (by rw[hgi];rfl)
    refine⟨⟨by omega,hlt⟩,_,ka,LdC r1 ?_⟩
    refine ifb (fun es=>?_) (fun es=>?_)
    ·obtain⟨f1,f2⟩:=hsh es
     have rr:RdL w.drew (a.add (i*3)) (kcells l[i]):=by rw[<-hgi];exact rowRd (f:=g) h.t1.near hil
     unfold kcells at rr
     refine⟨_,rfl,Ld1 h ⟨⟨by omega,hlt⟩,_,ka,LdR rr (NewS_run h fun p w h=>⟨LdAt1 h,?_⟩)⟩⟩
     rw[ka]
     refine AppP_in (new:=kcells l[i]) (by dsimp only;omega) ⟨rfl,h.rdL .here⟩ ?_
     refine rowSet (k:=3) (j:=m) (h.tail.t1) om (hg3 m om) rfl (kcells_one _) fun w h=>?_
     refine⟨_,rfl,St1 h.t1 rfl fun w h=>?_⟩
     refine⟨_,by omega,i+1,m+1,upd g m (kcells l[i]),rfl,by omega,rfl,fun _=>⟨_,hdl,hbi⟩,(fun h=>by rw[es]at h;cases h),fun _=>⟨by rw[hd];simp;omega,by omega⟩,?_,fun j hj=>?_,h⟩
     ·rw[hd]
      refine⟨fun j hj=>?_,fun j hj hj'=>?_⟩
      ·by_cases ej:j=m
       ·subst ej
        rw[upd_same]
        congr 1
        subst f1
        simp
       ·simp only[List.length_append,List.length_singleton]at hj
        rw[upd_other ej,hov.1 j om,List.getElem_append_left om]
      ·rw[upd_other om];exact hov.2 j hj om
     ·unfold upd;split
      ·rfl
      ·exact hg3 j hj
    ·obtain⟨f1,f2⟩:=hns es
     refine⟨_,by omega,i+1,m,g,rfl,by omega,rfl,fun _=>⟨_,hdl,hbi⟩,fun _=>⟨by rw[hd,f1,htk],f2⟩,(fun h=>by rw[es]at h;cases h),?_,hg3,h⟩
     rw[hd]
     refine⟨fun j hj=>?_,fun j hj hj'=>hov.2 j hj om⟩
     by_cases ej:j<(ded sb none (l.take i)).length
     ·rw[List.getElem_append_left ej];exact hov.1 j ej
     ·have hlen2:(ded sb none (l.take i)).length=i:=by rw[f1];simp;omega
      simp only[List.length_append,List.length_singleton]at hj
      have:j=i:=by omega
      subst this
      rw[List.getElem_append_right om]
      simpa using hgi
  ·refine ifd (fun h0=>?_) (fun h0=>?_)
   ·obtain⟨p,hp1,hp2⟩:=hp om
    have r1:=rowCell (v:=.slice l[i].2.1.a l[i].2.1.n l[i].2.1.c) h.t1 hil (i:=1) (by rw[hgi];rfl)
    refine⟨⟨by omega,hlt⟩,_,ka,LdC r1 ?_⟩
    refine callEq (h.rdB .k2 hp2) (h.rdB .k2 hbi) ⟨?_,h⟩
    rw[hp1]
    simp
   ·have:i=0:=by omega
    subst this
    exact⟨by simp[dedL],h⟩
 ·have:i=l.length:=by omega
  subst this
  rw[List.take_length]at hns hsh hov
  exact k _ m g w rfl hns (fun e=>(hsh e).1) hov hg3 h
end Go.Proofs.YtpkoddfamelnhaaGreatDoor
namespace Go.Tr
def spareO (k:Nat)(s:Sl):Chunk:=match s.a with|none=>emp|some a=>spare a k s.n s.c
theorem flat_split {f:Nat->List Value}{m:Nat}: ∀{n:Nat},m<=n-> ∃rest,flat f n=flat f m++rest
  | 0, h => ⟨[], by have : m = 0 := by omega
                    subst this;simp⟩
  | n + 1, h => by
    by_cases e:m=n+1
    · subst e;exact⟨[],by simp⟩
    · obtain⟨r,hr⟩:=flat_split (f:=f) (m:=m) (n:=n) om
      exact⟨r++f n,by rw[flat,hr,List.append_assoc]⟩
theorem bufOpen {w}{k:Nat}{s:Sl}{p:Addr}{f:Nat->List Value}{L}(hl: ∀j,j<s.n->(f j).length=k)(hk:0<k)(h:Sat w (Buf k s (flat f s.n)::L)):
  s.n<=s.c/\(0<s.n->s.a=some (s.a.getD p))/\Sat w (Rws (s.a.getD p) k s.n f::spareO k s::L):=by
 obtain⟨a,n,c⟩:=s
 cases a with
 |none=>
  obtain⟨g,⟨h1,h2,h3,h4⟩,hg⟩:=h
  dsimp only at h1 h2
  subst h1 h2
  refine⟨Nat.le_refl _,by simp,?_⟩
  exact Sat.t1 (SatU.nil (fun _=>rfl) ⟨g,h4,hg⟩)|>.t1|>.cons fun g hg=>hg
 |some a=>
  have h1:=Sat.bufRows hl h
  refine⟨?_,fun _=>rfl,h1⟩
  obtain⟨g,⟨e1,sp,e2,_⟩,_⟩:=h
  dsimp only at e1 e2
  have:n*k<=c*k:=by omega
  exact Nat.le_of_mul_le_mul_right this hk
theorem bufShut {w}{k:Nat}{s:Sl}{p:Addr}{m:Nat}{f:Nat->List Value}{L}(hl: ∀j,j<s.n->(f j).length=k)(hm:m<=s.n)(h0:s.a=none->s.n=0/\s.c=0)(h:Sat w (Rws (s.a.getD p) k s.n f::spareO k s::L)):
  Sat w (Buf k ⟨s.a,m,s.c⟩ (flat f m)::L):=by
 obtain⟨a,n,c⟩:=s
 cases a with
 |none=>
  obtain⟨e1,e2⟩:=h0 rfl
  dsimp only at e1 e2 hm
  subst e1 e2
  have:m=0:=by omega
  subst this
  exact SatU.nil ⟨rfl,rfl,rfl,fun _=>rfl⟩ h.tail.tail
 |some a=>
  have h1:=Sat.rowsBuf (n:=n) (c:=c) hl h
  refine h1.cons fun g ⟨e1,sp,e2,hg⟩=>?_
  obtain⟨r,hr⟩:=flat_split (f:=f) hm
  dsimp only at e1 e2 hm
  have e3:(flat f m).length=m*k:=flat_length fun j hj=>hl j (by dsimp only;omega)
  refine⟨e3,r++sp,?_,?_⟩
  ·rw[hr,List.length_append]at e2;rw[List.length_append];dsimp only;omega
  ·rw[hr,List.append_assoc]at hg;exact hg
end Go.Tr
namespace Go.Proofs.YtpkoddfamelnhaaGreatDoor
open Go Go.Tr
set_option maxRecDepth 100000
theorem collect_sub (sn:Int): ∀(l:List KC),(∀k∈(collect sn l).1,k∈l)/\(collect sn l).1.length<=l.length
 | []=>⟨by simp[collect],by simp[collect]⟩
 | k :: l => by
  obtain⟨h1,h2⟩:=collect_sub sn l
  unfold collect
  split
  ·split
   ·exact⟨by simp,by simp⟩
   ·refine⟨fun x hx=>?_,by simp;omega⟩
    simp only[List.mem_cons]at hx|-
    exact hx.imp id (h1 x)
  ·exact⟨fun x hx=>List.mem_cons_of_mem _ (h1 x hx),by simp;omega⟩
def SufSorted (sb:KC->ByteArray)(c l:List KC):Prop:= ∃d':Nat->KC×Nat,SameI 0 c.length (fun j=>(c.getD j kd,j)) d'/\SS (fun x y:KC×Nat=>decide (bcmp (sb x.1) (sb y.1)<0)) Prod.snd 0 c.length d'/\l=(List.range c.length).map fun j=>(d' j).1
def CoalJ (D:Hp)(kb:Addr)(sn:Int)(ks:List KC)(e:Addr)(R:List Chunk)(di:Int)(w:World):Prop:= ∃Ks':Sl,((collect sn ks).2=none/\di= -1\/ ∃j:Nat,di=j/\ ∃hj:j<ks.length,(collect sn ks).2=some ks[j])/\Ks'.n=(collect sn ks).1.length/\
 Sat w (Arr kb [cmpV,.slice Ks'.a Ks'.n Ks'.c]::Buf 3 Ks' ((collect sn ks).1.flatMap kcells)::keyRows e ks::Own D::R)
theorem spec225 {D}{sb:KC->ByteArray}{kb:Addr}{sn:Int}{ksl:Sl}{e:Addr}{ks:List KC}{Ks:Sl}{R w}{K:IV->WP}(hks:(0<ks.length->ksl.a=some e)/\ksl.n=ks.length)(hok: ∀k∈ks,KOk k)(hlen:ks.length<2^32)(hn:Ks.n=0)
  (hb: ∀k∈ks,BytesAt D k.2.1 (sb k)) (h:Sat w (Arr kb [cmpV,.slice Ks.a Ks.n Ks.c]::Buf 3 Ks []::keyRows e ks::Own D::R))
  (k : ∀ (l : List KC) (Ks' : Sl) w', SufSorted sb (collect sn ks).1 l -> Ks'.n = (ded sb none l ++ (collect sn ks).2.toList).length ->
   Sat w' (Arr kb [cmpV,.slice Ks'.a Ks'.n Ks'.c]::Buf 3 Ks' ((ded sb none l++(collect sn ks).2.toList).flatMap kcells)::keyRows e ks::Own D::R)->K .nil w'):F225 (.mk (.func 46) #[] #[]) (some kb) sn ksl K w:=by
 unfold F225
 refine⟨CoalJ D kb sn ks e R,?_,?_⟩
 rotate_left
 ·refine coal1 (J:=CoalJ D kb sn ks e R) hks hok hlen hn h ?_
  intro di Ks' w' h1 h2 _ h4
  exact⟨Ks',h1,h2,h4⟩
 clear h
 rintro di w ⟨Ks',hdi,hK',h⟩
 obtain⟨hsub,hsl⟩:=collect_sub sn ks
 generalize hcol:(collect sn ks).1=c at*
 generalize hdel:(collect sn ks).2=del at*
 have hcl:c.length<2^32:=by omega
 have h1:=h.t1
 rw[<-flat_all kcells kd c,<-hK']at h1
 obtain⟨hnc,hka,h2⟩:=bufOpen (k:=3) (p:=kb) (fun j _=>rfl) (Nat.succ_pos _) h1
 have hn60:Ks'.n<2^60:=by omega
 have h3:Sat w ((sufI D sb kb (Ks'.a.getD kb) Ks' hka hn60).St (fun j=>(c.getD j kd,j))++(spareO 3 Ks'::keyRows e ks::R)):=by
  have h4:=h2.t4.t3.t2
  refine sufShut (fun j hj=>hb _ (hsub _ ?_)) h4
  have hj':j<c.length:=by omega
  dsimp only
  rw[List.getD_eq_getElem?_getD,List.getElem?_eq_getElem hj']
  exact List.getElem_mem hj'
 have hnone:Ks'.a=none->Ks'.n=0/\Ks'.c=0:=fun hh=>by
  obtain⟨g,hg,_⟩:=h1
  unfold Buf at hg
  rw[hh]at hg
  exact⟨hg.1,hg.2.1⟩
 refine call232 (data1:=.mk 401 (.pointer (some kb))) (spec232 (I:=sufI D sb kb (Ks'.a.getD kb) Ks' hka hn60) (tg:=Prod.snd) sufSWO (fun w K hs k=>suf_len w K hs k) h3 (fun x _=>rfl) fun d' w hsm hss h=>?_)
 have h5:Sat w (sufRows D sb (Ks'.a.getD kb) Ks'.n d'::Arr kb [cmpV,.slice Ks'.a Ks'.n Ks'.c]::Own D::spareO 3 Ks'::keyRows e ks::R):=h
 obtain⟨hbs,h6⟩:=sufOpen h5
 refine⟨_,rfl,Ld1 h6 ⟨_,rfl,Ld1 h6 ⟨⟨by omega,by dsimp only;omega⟩,_,rfl,St1 h6 rfl fun w h=>?_⟩⟩⟩
 have hln:((List.range c.length).map fun j=>(d' j).1).length=Ks'.n:=by simp[hK']
 have hss':SufSorted sb c ((List.range c.length).map fun j=>(d' j).1):=⟨d',by rw[<-hK'];exact hsm,by rw[<-hK'];exact hss,rfl⟩
 have hget: ∀j,j<Ks'.n->((List.range c.length).map fun j=>(d' j).1).getD j kd=(d' j).1:=fun j hj=>by
  rw[List.getD_eq_getElem?_getD,List.getElem?_map,List.getElem?_range om];rfl
 rw[Rws.congr (g:=fun j=>kcells ((((List.range c.length).map fun j=>(d' j).1)).getD j kd)) (fun j hj=>by rw[hget j hj])]at h
 have hmem: ∀x∈(List.range c.length).map (fun j=>(d' j).1),BytesAt D x.2.1 (sb x):=fun x hx=>by
  simp only[List.mem_map,List.mem_range]at hx
  obtain⟨j,hj,rfl⟩:=hx
  exact hbs j om
 generalize(List.range c.length).map (fun j=>(d' j).1)=l at hln hss' h hmem
 clear hget
 rw[<-hln]at h
 refine coal2 (a:=Ks'.a.getD kb) (l:=l) (K9:=⟨Ks'.a,Ks'.n,Ks'.c⟩) (D:=D) (sb:=sb) hln.symm (fun hp=>hka om) hnc om hmem h.t1 fun s m g w hs1 hs2 hs3 hov hg3 h=>?_
 have hdl:=ded_len sb l none
 have fin: ∀(m:Nat) w,m=(ded sb none l).length->Sat w (Arr kb [cmpV,.slice Ks'.a m Ks'.c]::Rws (Ks'.a.getD kb) 3 l.length g::Own D::spareO 3 Ks'::keyRows e ks::R)->
   (if(decide (di>=(0:Int)))=true then∃p34,(some kb)=some p34/\Ld (.one .sl) (p34.add 1) (fun(Keys35:Sl) w=>(0<=di/\di<(ksl.n:Int))/\(∃e36,ksl.a=some e36/\Ld (.agg [.int .u64,.sl,.sl]) (e36.add (di.toNat*3)) (fun(x37:Int×Sl×Sl) w=>NewS [.int .u64 x37.1,.slice x37.2.1.a x37.2.1.n x37.2.1.c,.slice x37.2.2.a x37.2.2.n x37.2.2.c] 267 1 (fun(l38:Sl) w=>LdAt (.one .sl) (p34.add 1) Keys35 w/\AppP si109 Keys35 l38 (fun(a39:Sl) w=> ∃p40,(some kb)=some p40/\St (p40.add 1) (.slice a39.a a39.n a39.c) (fun w=>decI .nilIface (fun i41=>K i41 w)) w) w) w) w)) w.drew else decI .nilIface (fun i42=>K i42 w)):=by
  intro m w hm h
  have hcells:flat g m=(ded sb none l).flatMap kcells:=by
   rw[<-flat_all kcells kd (ded sb none l),<-hm]
   have: ∀n,n<=m->flat g n=flat (fun j=>kcells ((ded sb none l).getD j kd)) n:=by
    intro n
    induction n with
    |zero=>intro _;rfl
    |succ n ih=>
     intro hn
     rw[flat,flat,ih om,hov.1 n om,List.getD_eq_getElem?_getD,List.getElem?_eq_getElem om]
     rfl
   exact this m (Nat.le_refl _)
  rw[hln]at h
  have h7:=bufShut (m:=m) (p:=kb) (fun j hj=>hg3 j om) om hnone (h.t1.take .k3|>.t1)
  rw[hcells]at h7
  have h8:Sat w (Arr kb [cmpV,.slice Ks'.a m Ks'.c]::Buf 3 ⟨Ks'.a,m,Ks'.c⟩ ((ded sb none l).flatMap kcells)::keyRows e ks::Own D::R):=h7.t3.t2.t2.t1
  have hml:m<2^32:=by omega
  rcases hdi with⟨hd1,rfl⟩|⟨j,rfl,hj,hd1⟩
  ·refine ifd (fun hh=>by omega) (fun _=>decI_nil (k l ⟨Ks'.a,m,Ks'.c⟩ w hss' ?_ ?_))
   ·rw[hd1];simpa using hm
   ·rw[hd1];simpa using h8
  ·refine ifd (fun _=>?_) (fun hh=>by omega)
   have hrd:RdL w.drew (e.add (j*3)) (kcells ks[j]):=keyRd h8.near .k2 hj
   unfold kcells at hrd
   rw[Int.toNat_natCast]
   refine⟨_,rfl,Ld1 h8 ⟨⟨by omega,by have:=hks.2;omega⟩,_,hks.1 om,LdR hrd (NewS_run h8 fun p w h=>⟨LdAt1 h,?_⟩)⟩⟩
   refine App1 (k:=3) rfl h .k2 (.here) rfl (kcells_one ks[j]) ?_ (by dsimp only;omega) fun r w er ea h=>?_
   ·show(2*(m+1)+1024)*56<=_
    omega
   replace h:=h.t1.tail.t1
   refine⟨_,rfl,St1 h rfl fun w h=>decI_nil (k l r w hss' ?_ ?_)⟩
   ·rw[hd1];simp;dsimp only at er;omega
   ·rw[hd1,List.flatMap_append]
    simpa [kcells]using h
 refine⟨fun _ w=>Sat w (Arr kb [cmpV,.slice Ks'.a (ded sb none l).length Ks'.c]::Rws (Ks'.a.getD kb) 3 l.length g::Own D::spareO 3 Ks'::keyRows e ks::R),fun _ w h=>fin _ w rfl h,?_⟩
 refine ifn (fun es=>?_) (fun es=>?_)
 ·obtain⟨f1,f2⟩:=hs2 es
  refine⟨_,rfl,St1 h rfl fun w h=>?_⟩
  rw[f1,hln];rw[hln]at h;exact h
 ·rw[<-hs3 es];exact h
end Go.Proofs.YtpkoddfamelnhaaGreatDoor
namespace Go.Tr
theorem AppP_inD {s:SI}{d:Sl}{a:Addr}{x:Sl}{new:List Value}{K:Sl->WP}{w}(ha:d.a=some a)(hfit:d.n+x.n<=d.c)(hx:RdS w x.a (x.n*s.l.length) new)
  (h:StL (a.add (d.n*s.l.length)) new (K ⟨d.a,d.n+x.n,d.c⟩) w):AppP s d x K w:=by
 obtain⟨b,n,c⟩:=d
 dsimp only at ha
 subst ha
 exact AppP_in hfit hx h
theorem Sat.t7 {w}{a b c d e f g i:Chunk}{L}(h:Sat w (a::b::c::d::e::f::g::i::L)):Sat w (i::a::b::c::d::e::f::g::L):=h.take .k7
theorem Sat.t8 {w}{a b c d e f g i j:Chunk}{L}(h:Sat w (a::b::c::d::e::f::g::i::j::L)):Sat w (j::a::b::c::d::e::f::g::i::L):=h.take .k8
theorem bufTrunc {k:Nat}{a:Option Addr}{n c:Nat}{cs:List Value}{w L}(h:Sat w (Buf k ⟨a,n,c⟩ cs::L)):Sat w (Buf k ⟨a,0,c⟩ []::L):=by
 refine h.cons fun g hg=>?_
 unfold Buf at hg|-
 cases a with
 |none=>exact⟨rfl,hg.2.1,rfl,hg.2.2.2⟩
 |some a=>
  obtain⟨h1,sp,h2,h3⟩:=hg
  refine⟨by simp,cs++sp,?_,by simpa using h3⟩
  simp only[List.length_nil,List.length_append,Nat.zero_add]
  exact h2
end Go.Tr
namespace Go.Proofs.YtpkoddfamelnhaaGreatDoor
open Go Go.Tr
set_option maxRecDepth 100000
theorem collect_del (sn:Int): ∀(l:List KC) (k:KC),(collect sn l).2=some k->k∈l/\k.1%256=19
 | [],k,h=>by simp[collect]at h
 | x :: l, k, h => by
  unfold collect at h
  split at h
  ·split at h
   ·rename_i h19
    injection h with h
    subst h
    exact⟨by simp,h19⟩
   ·obtain⟨h1,h2⟩:=collect_del sn l k h
    exact⟨List.mem_cons_of_mem _ h1,h2⟩
  ·obtain⟨h1,h2⟩:=collect_del sn l k h
   exact⟨List.mem_cons_of_mem _ h1,h2⟩
theorem ded_mem (sb:KC->ByteArray): ∀(l:List KC) (p:Option ByteArray) (k:KC),k∈ded sb p l->k∈l
 | [],p,k,h=>by simp[ded]at h
 | x :: l, p, k, h => by
  simp only[ded]at h
  split at h
  ·exact List.mem_cons_of_mem _ (ded_mem sb l p k h)
  ·rcases List.mem_cons.1 h with rfl|h
   ·simp
   ·exact List.mem_cons_of_mem _ (ded_mem sb l _ k h)
theorem SufSorted.mem {sb:KC->ByteArray}{c l:List KC}(h:SufSorted sb c l):l.length=c.length/\ ∀x∈l,x∈c:=by
 obtain⟨d',h1,h2,rfl⟩:=h
 refine⟨by simp,fun x hx=>?_⟩
 simp only[List.mem_map,List.mem_range]at hx
 obtain⟨j,hj,rfl⟩:=hx
 obtain⟨i,_,hi,e⟩:=h1.back (Nat.zero_le j) hj
 rw[e]
 dsimp only
 rw[List.getD_eq_getElem?_getD,List.getElem?_eq_getElem hi]
 exact List.getElem_mem hi
def isSet (k:KC):Bool:=decide (k.1%256=21)
theorem spec198 {D}{sb:KC->ByteArray}{ui bf cq dst e:Addr}{sn:Int}{Sa Ea kx Ks:Sl}{od:Int}{ks:List KC}{v0 v1 v3 fnv:Value}{kn:Nat}{cs0:List Value}{R w}{K:IV->WP}
  (hks:(0<ks.length->kx.a=some e)/\kx.n=ks.length) (hc:kx.n<=kx.c) (hok: ∀k∈ks,KOk k/\(k.1%256=19\/k.1%256=20\/k.1%256=21)) (hlen:ks.length<2^32) (hb: ∀k∈ks,BytesAt D k.2.1 (sb k)) (heq:DAt D (cq.add 1) eqV)
  (h:Sat w (Arr ui [.int .u64 sn,.pointer (some cq)]::Arr (ui.add 93) [.bool false]::Arr (ui.add 94) [.pointer (some bf)]::Arr (bf.add 9) [fnv,.slice Ks.a Ks.n Ks.c]::Buf 3 ⟨Ks.a,kn,Ks.c⟩ cs0::Arr dst [v0,v1,.slice kx.a kx.n kx.c,v3]::keyRows e ks::Own D::R))
  (k : ∀ (l : List KC) (Ks' : Sl) (g : Nat -> List Value) (sets : List KC) w', SufSorted sb (collect sn ks).1 l -> sets = (ded sb none l).filter isSet -> sets.length <= ks.length -> (∀ (j : Nat) (hj : j < sets.length), g j = kcells sets[j]) -> (∀ j, j < ks.length -> (g j).length = 3) ->
   Sat w' (Arr ui [.int .u64 sn,.pointer (some cq)]::Arr (ui.add 93) [.bool false]::Arr (ui.add 94) [.pointer (some bf)]::Arr (bf.add 9) [cmpV,.slice Ks'.a Ks'.n Ks'.c]::Buf 3 Ks' ((ded sb none l++(collect sn ks).2.toList).flatMap kcells)::
    Arr dst [.slice Sa.a Sa.n Sa.c,.slice Ea.a Ea.n Ea.c,.slice kx.a sets.length kx.c,.int .i8 1]::Rws e 3 ks.length g::Own D::R)->K .nil w'):F198 (some ui) (.mk (.func 45) #[] #[]) (Sa,Ea,kx,od) (some dst) K w:=by
 unfold F198
 refine NewP_run h fun n5 w h=>Ld1 h ⟨_,rfl,St1 h rfl fun w h=>Ld1 h ⟨_,rfl,St1 h rfl fun w h=>?_⟩⟩
 refine⟨_,rfl,Ld1 h ⟨_,rfl,Ld1 h ⟨_,rfl,Ld1 h ⟨⟨by omega,by dsimp only;omega⟩,?_,_,rfl,StL_of (St1 h rfl fun w h=>St1 h rfl fun w h=>?_)⟩⟩⟩⟩
 ·intro v hv
  simp only[List.mem_singleton]at hv
  subst hv;rfl
 refine⟨_,rfl,Ld1 h ⟨_,rfl,LdC (h.near.dat .k8 heq) ⟨_,rfl,Ld1 h ⟨_,rfl,_,rfl,Ld1 h (Ld1 h ?_)⟩⟩⟩⟩
 have h1:Sat w (Arr (bf.add 9) [cmpV,.slice Ks.a 0 Ks.c]::Buf 3 ⟨Ks.a,0,Ks.c⟩ []::keyRows e ks::Own D::_):=Sat.t7 (bufTrunc h.t8.t8.t7)
 refine call225 (spec225 (Ks:=⟨Ks.a,0,Ks.c⟩) (ksl:=⟨kx.a,kx.n,kx.c⟩) hks (fun k hk=>(hok k hk).1) hlen rfl hb h1.near fun l Ks' w hl hn h=>⟨IsI_enc _,?_⟩)
 rw[isNilI_enc]
 refine ifn (fun hh=>by cases hh) (fun _=>?_)
 obtain⟨hll,hlm⟩:=hl.mem
 obtain⟨hsub,hsl⟩:=collect_sub sn ks
 have hkind: ∀k∈ded sb none l++(collect sn ks).2.toList,KOk k/\(k.1%256=19\/k.1%256=20\/k.1%256=21):=fun k hk=>by
  rcases List.mem_append.1 hk with hk|hk
  ·exact hok k (hsub k (hlm k (ded_mem sb l none k hk)))
  ·exact hok k (collect_del sn ks k (by simpa using hk)).1
 have hsets:(ded sb none l++(collect sn ks).2.toList).filter isSet=(ded sb none l).filter isSet:=by
  rw[List.filter_append]
  have:(collect sn ks).2.toList.filter isSet=[]:=by
   rw[List.filter_eq_nil_iff]
   intro k hk
   have:=(collect_del sn ks k (by simpa using hk)).2
   simp[isSet,this]
  rw[this,List.append_nil]
 have hcap:((ded sb none l).filter isSet).length<=ks.length:=by
  have h1:=List.length_filter_le isSet (ded sb none l)
  have h2:=ded_len sb l none
  omega
 have holl:(ded sb none l++(collect sn ks).2.toList).length<=ks.length+1:=by
  have h2:=ded_len sb l none
  have h3:(collect sn ks).2.toList.length<=1:=by cases(collect sn ks).2<;>simp
  rw[List.length_append];omega
 refine⟨_,rfl,Ld1 h (ifb (fun hh=>by cases hh) fun _=>?_)⟩
 have kk:=k l Ks'
 clear k
 generalize hol:ded sb none l++(collect sn ks).2.toList=ol at*
 refine⟨_,rfl,Ld1 h ⟨_,rfl,Ld1 h ⟨_,rfl,Ld1 h ⟨⟨by omega,by dsimp only;omega⟩,_,rfl,St1 h rfl fun w h=>?_⟩⟩⟩⟩
 have h2:=h.t1
 rw[<-flat_all kcells kd ol,<-hn]at h2
 obtain⟨hnc,hka,h3⟩:=bufOpen (k:=3) (p:=bf) (fun j _=>rfl) (Nat.succ_pos _) h2
 have hnone:Ks'.a=none->Ks'.n=0/\Ks'.c=0:=fun hh=>by
  obtain⟨g,hg,_⟩:=h2
  unfold Buf at hg
  rw[hh]at hg
  exact⟨hg.1,hg.2.1⟩
 clear h h1 h2
 have h4:=((h3.t3).take .k9).t1
 clear h3
 have hkin:kx.a=none->ks.length=0:=fun hh=>by
  rcases Nat.eq_zero_or_pos ks.length with h0|h0
  ·exact h0
  ·have:=hks.1 h0;rw[hh]at this;cases this
 refine⟨fun q (s:Int) w=> ∃(i m:Nat) (g:Nat->List Value),s=i/\i<=ol.length/\q=ol.length-i/\m=((ol.take i).filter isSet).length/\(∀(j:Nat) (hj:j<m),∃hj':j<((ol.take i).filter isSet).length,g j=kcells ((ol.take i).filter isSet)[j])/\(∀j,j<ks.length->(g j).length=3)/\
   Sat w (Rws e 3 ks.length g::Arr dst [.slice Sa.a Sa.n Sa.c,.slice Ea.a Ea.n Ea.c,.slice kx.a m kx.c,v3]::Rws (Ks'.a.getD bf) 3 Ks'.n (fun j=>kcells (ol.getD j kd))::spareO 3 Ks'::Arr (bf.add 9) [cmpV,.slice Ks'.a Ks'.n Ks'.c]::Own D::Arr n5 [.slice Sa.a Sa.n Sa.c,.slice Ea.a Ea.n Ea.c,.slice kx.a kx.n kx.c,.int .i8 od]::Arr ui [.int .u64 sn,.pointer (some cq)]::Arr (ui.add 93) [.bool false]::Arr (ui.add 94) [.pointer (some bf)]::R),
  ⟨_,0,0,_,rfl,by omega,rfl,by simp,fun j hj=>by omega,fun j hj=>rfl,h4⟩,?_⟩
 clear h4
 rintro q s w ⟨i,m,g,rfl,hi,hq,hm,hg,hg3,h⟩
 refine ifd (fun hlt=>?_) (fun hge=>?_)
 ·have hil:i<ol.length:=by dsimp only at hlt;omega
  have ew:IntKind.i64.wrap ((i:Int)+1)=((i+1:Nat):Int):=w1 om
  have hka':=hka om
  have htk:=take_succ' hil
  have hki:=hkind ol[i] (List.getElem_mem hil)
  have hrd: ∀w,Sat w (Rws e 3 ks.length g::Arr dst [.slice Sa.a Sa.n Sa.c,.slice Ea.a Ea.n Ea.c,.slice kx.a m kx.c,v3]::Rws (Ks'.a.getD bf) 3 Ks'.n (fun j=>kcells (ol.getD j kd))::spareO 3 Ks'::Arr (bf.add 9) [cmpV,.slice Ks'.a Ks'.n Ks'.c]::Own D::Arr n5 [.slice Sa.a Sa.n Sa.c,.slice Ea.a Ea.n Ea.c,.slice kx.a kx.n kx.c,.int .i8 od]::Arr ui [.int .u64 sn,.pointer (some cq)]::Arr (ui.add 93) [.bool false]::Arr (ui.add 94) [.pointer (some bf)]::R)->RdL w ((Ks'.a.getD bf).add (i*3)) (kcells ol[i]):=fun w h=>by
   have:=rowRd h.t2 (j:=i) om
   rwa[List.getD_eq_getElem?_getD,List.getElem?_eq_getElem hil]at this
  unfold kcells at hrd
  rw[ew,Int.toNat_natCast]
  have skip: ∀w,isSet ol[i]=false->Sat w _->_:=fun w hns h=>(show∃m',m'<q/\ ∃(i_1 m:Nat) (g:Nat->List Value),((i+1:Nat):Int)=i_1/\i_1<=ol.length/\m'=ol.length-i_1/\m=((ol.take i_1).filter isSet).length/\(∀(j:Nat) (hj:j<m),∃hj':j<((ol.take i_1).filter isSet).length,g j=kcells ((ol.take i_1).filter isSet)[j])/\(∀j,j<ks.length->(g j).length=3)/\
   Sat w (Rws e 3 ks.length g::Arr dst [.slice Sa.a Sa.n Sa.c,.slice Ea.a Ea.n Ea.c,.slice kx.a m kx.c,v3]::Rws (Ks'.a.getD bf) 3 Ks'.n (fun j=>kcells (ol.getD j kd))::spareO 3 Ks'::Arr (bf.add 9) [cmpV,.slice Ks'.a Ks'.n Ks'.c]::Own D::Arr n5 [.slice Sa.a Sa.n Sa.c,.slice Ea.a Ea.n Ea.c,.slice kx.a kx.n kx.c,.int .i8 od]::Arr ui [.int .u64 sn,.pointer (some cq)]::Arr (ui.add 93) [.bool false]::Arr (ui.add 94) [.pointer (some bf)]::R)from by
    have hf:(ol.take (i+1)).filter isSet=(ol.take i).filter isSet:=by rw[htk,List.filter_append];simp[hns]
    refine⟨_,by omega,i+1,m,g,rfl,by omega,rfl,by rw[hf];exact hm,?_,hg3,h⟩
    rw[hf];exact hg)
  refine⟨⟨by omega,hlt⟩,_,hka',LdR (hrd w h) ?_⟩
  refine call137 (k1:=ol[i]) (spec137 h hki.1.h0 (by have:=hki.1.h1;omega) fun w h=>?_)
  refine ife (fun h21=>?_) (fun h21=>?_)
  ·refine⟨fun _ w=>Sat w (Rws e 3 ks.length g::Arr dst [.slice Sa.a Sa.n Sa.c,.slice Ea.a Ea.n Ea.c,.slice kx.a m kx.c,v3]::Rws (Ks'.a.getD bf) 3 Ks'.n (fun j=>kcells (ol.getD j kd))::spareO 3 Ks'::Arr (bf.add 9) [cmpV,.slice Ks'.a Ks'.n Ks'.c]::Own D::Arr n5 [.slice Sa.a Sa.n Sa.c,.slice Ea.a Ea.n Ea.c,.slice kx.a kx.n kx.c,.int .i8 od]::Arr ui [.int .u64 sn,.pointer (some cq)]::Arr (ui.add 93) [.bool false]::Arr (ui.add 94) [.pointer (some bf)]::R),fun _ w h=>?_,h.near⟩
   have hset:isSet ol[i]=true:=by simp[isSet,h21]
   have hf:(ol.take (i+1)).filter isSet=(ol.take i).filter isSet++[ol[i]]:=by rw[htk,List.filter_append];simp[hset]
   have hml:m+1<=ks.length:=by
    have h1:((ol.take (i+1)).filter isSet).length<=(ol.filter isSet).length:=((List.take_sublist (i+1) ol).filter isSet).length_le
    rw[hf,hsets,List.length_append]at h1
    simp only[List.length_singleton]at h1
    omega
   have hke:=hks.1 om
   refine⟨_,rfl,Ld1 h ⟨⟨by omega,hlt⟩,_,hka',LdR (hrd w.drew h.near) (NewS_run h fun p w h=>⟨LdAt1 h,?_⟩)⟩⟩
   refine AppP_inD (new:=kcells ol[i]) hke (by have:=hks.2;dsimp only;omega) ⟨rfl,h.rdL .here⟩ ?_
   refine rowSet (k:=3) (j:=m) h.tail om (hg3 m om) rfl (kcells_one _) fun w h=>?_
   refine⟨_,rfl,St1 h rfl fun w h=>?_⟩
   refine⟨_,by omega,i+1,m+1,upd g m (kcells ol[i]),rfl,by omega,rfl,by rw[hf];simp;omega,fun j hj=>?_,fun j hj=>?_,h⟩
   ·have hlen:((ol.take i).filter isSet).length=m:=hm.symm
    refine⟨by rw[hf];simp;omega,?_⟩
    simp only[hf]
    by_cases ej:j=m
    ·subst ej
     rw[upd_same,List.getElem_append_right om]
     simp
    ·obtain⟨hj',e1⟩:=hg j om
     rw[upd_other ej,e1,List.getElem_append_left hj']
   ·unfold upd;split
    ·rfl
    ·exact hg3 j hj
  ·have hns:isSet ol[i]=false:=by simp[isSet,h21]
   refine ife (fun _=>skip _ hns h.near) (fun h20=>ife (fun _=>skip _ hns h) (fun h19=>?_))
   rcases hki.2 with e|e|e
   ·exact(h19 e).elim
   ·exact(h20 e).elim
   ·exact(h21 e).elim
 ·have:i=ol.length:=by dsimp only at hge;omega
  subst this
  rw[List.take_length]at hm hg
  refine⟨_,rfl,St1 h rfl fun w h=>decI_nil ?_⟩
  have h5:=bufShut (k:=3) (f:=fun j=>kcells (ol.getD j kd)) (m:=Ks'.n) (p:=bf) (fun j hj=>rfl) (Nat.le_refl _) hnone h.t3.t3
  rw[hn,flat_all kcells kd ol]at h5
  have h6:=h5.t5.tail.t4.t2.t3.t3.t4.t7.t7.t7
  rw[hm,hsets,<-hn]at h6
  refine kk g _ w hl rfl hcap (fun j hj=>?_) hg3 h6
  obtain⟨hj',e1⟩:=hg j (by rw[hm,hsets];exact hj)
  rw[e1]
  congr 1
  simp only[hsets]
end Go.Proofs.YtpkoddfamelnhaaGreatDoor
namespace Go.Tr
theorem bufAll {k:Nat}{a:Option Addr}{n c:Nat}{cs:List Value}{w L}(h:Sat w (Buf k ⟨a,n,c⟩ cs::L)):
  (a=none/\n=0/\c=0/\Sat w L)\/ ∃p xs,a=some p/\xs.length=c*k/\Sat w (Arr p xs::L):=by
 cases a with
 |none=>
  have h0:=h.tail
  obtain⟨g,hg,_⟩:=h
  exact .inl ⟨rfl,hg.1,hg.2.1,h0⟩
 |some p=>
  obtain⟨g,⟨h1,sp,h2,h3⟩,hg⟩:=h
  exact .inr ⟨p,cs++sp,rfl,by rw[List.length_append];exact h2,g,h3,hg⟩
theorem bufEmpty {k:Nat}{p:Addr}{c:Nat}{xs:List Value}{w L}(hx:xs.length=c*k)(h:Sat w (Arr p xs::L)):Sat w (Buf k ⟨some p,0,c⟩ []::L):=
 h.cons fun g hg=>⟨by simp,xs,by simpa using hx,hg⟩
end Go.Tr
namespace Go.Proofs.YtpkoddfamelnhaaGreatDoor
open Go Go.Tr
set_option maxRecDepth 100000
theorem spec208 {c:MC}{s:MSt}{R w}{K:Unit->WP}(hkc:s.keys.n<=s.keys.c)(hlen:s.keys.n<2^40)(h:Sat w (MSL c s R))
  (k: ∀w',Sat w' (MSL c {s with keys:=⟨s.keys.a,0,s.keys.c⟩,kn:=0,kc:=[]} R)->K () w'):F208 (some c.m) K w:=by
 unfold F208
 unfold MSL hp MSR at h
 refine⟨_,rfl,Ld1 h ⟨_,rfl,Ld1 h ?_⟩⟩
 have fin: ∀w,Sat w (MSL c {s with kn:=0,kc:=[]} R)-> ∃p13,some c.m=some p13/\Ld (.one .ptr) (p13.add 0) (fun(MergingBuffers14:Option Addr) w=> ∃p15,some c.m=some p15/\Ld (.one .ptr) (p15.add 0) (fun(MergingBuffers16:Option Addr) w=> ∃p17,MergingBuffers16=some p17/\Ld (.one .sl) (p17.add 0) (fun(keys18:Sl) w=>(0<=(0:Int)/\(0:Int)<=(keys18.c:Int))/\ ∃p19,MergingBuffers14=some p19/\St (p19.add 0) (.slice keys18.a 0 keys18.c) (fun w=>K () w) w) w) w) w.drew:=by
  intro w h
  unfold MSL hp MSR at h
  exact⟨_,rfl,Ld1 h ⟨_,rfl,Ld1 h ⟨_,rfl,Ld1 h ⟨⟨by omega,by dsimp only;omega⟩,_,rfl,St1 h rfl fun w h=>k w h⟩⟩⟩⟩
 have hB:=h.t7
 rcases bufAll hB with⟨ha,hn0,hc0,_⟩|⟨p,xs,ha,hx,h2⟩
 ·refine⟨fun _ (i:Int) w=>i=0/\Sat w (MSL c {s with kn:=0,kc:=[]} R),⟨0,rfl,?_⟩,?_⟩
  ·have h3:=bufTrunc hB
   have h4:=h3.t7.t7.t7.t7.t7.t7.t7
   exact h4
  ·rintro m i w ⟨rfl,h⟩
   refine ifd (fun hc'=>?_) (fun _=>fin w h)
   dsimp only at hc'
   omega
 ·refine⟨fun m (i:Int) w=> ∃(j:Nat) (xs:List Value),i=j/\j<=s.keys.n/\m=s.keys.n-j/\xs.length=s.keys.c*3/\Sat w (Arr p xs::(Arr (c.b.add 2) [cmpV,.bool s.rev,.slice (some (c.m.add 50)) s.N 10]::Fam 10 (slot (mX c s.pos) (c.m.add 50) s.N s.f)::Fam (mX c s.pos).k (mX c s.pos).levs::Own (mX c s.pos).D::
   Arr c.m [.pointer (some c.b),.slice s.start.a s.start.n s.start.c,.slice s.end_.a s.end_.n s.end_.c,c.tv,.slice s.s0.a s.s0.n s.s0.c,.slice s.s1.a s.s1.n s.s1.c,.slice s.s2.a s.s2.n s.s2.c,.int .i8 s.s3,.nilIface,.int .i8 s.dir]::
   Arr c.b [.slice s.keys.a s.keys.n s.keys.c,.slice (some (c.m.add 10)) c.k c.C]::Arr (c.b.add 5) [.slice s.buf.a s.buf.n s.buf.c]::Buf 1 s.buf (bytesOf s.bb)::R)),⟨_,0,xs,rfl,by omega,rfl,hx,h2⟩,?_⟩
  clear h h2 hB
  rintro m i w ⟨j,xs,rfl,hj,hm,hx,h⟩
  refine ifd (fun hc'=>?_) (fun hc'=>?_)
  ·refine⟨_,rfl,Ld1 h ⟨_,rfl,Ld1 h ⟨⟨by omega,hc'⟩,_,ha,?_⟩⟩⟩
   dsimp only at hc'
   rw[Int.toNat_natCast]
   have hfit:j*3+3<=xs.length:=by rw[hx];omega
   obtain⟨ho,hs⟩:=setArr (p:=p) (o:=j*3) (vs:=[.int .u64 0,.slice none 0 0,.slice none 0 0]) (xs:=xs) hfit h (by simp[Value.oneCell'])
   refine⟨ho,_,by omega,j+1,_,w1 om,by omega,rfl,?_,hs⟩
   simp only[List.length_append,List.length_take,List.length_drop,List.length_cons,List.length_nil]
   omega
  ·have h3:=bufEmpty (c:=s.keys.c) (k:=3) hx h
   rw[<-ha]at h3
   exact fin w h3.t7.t7.t7.t7.t7.t7.t7
theorem RdL.app {w}{p:Addr}{xs ys:List Value}(h:RdL w p xs)(k:RdL w (p.add xs.length) ys):RdL w p (xs++ys):=fun j v e=>by
 by_cases hj:j<xs.length
 ·rw[List.getElem?_append_left hj]at e;exact h j v e
 ·rw[List.getElem?_append_right om]at e
  have:=k _ v e
  rwa[Addr.add_add,show xs.length+(j-xs.length)=j by omega]at this
theorem rdKeys {w}{a:Addr}: ∀(ks:List KC) (o:Nat),(∀j k,ks[j]? =some k->RdL w (a.add ((o+j)*3)) (kcells k))->RdL w (a.add (o*3)) (ks.flatMap kcells)
 | [],o,_=>fun j v e=>by simp at e
 | k :: ks, o, h => by
  rw[List.flatMap_cons]
  refine RdL.app (h 0 k rfl) ?_
  have:=rdKeys ks (o+1) fun j k' e=>by
   have:=h (j+1) k' (by simpa using e)
   rwa[show o+(j+1)=o+1+j by omega]at this
  rw[Addr.add_add]
  show RdL w (a.add (o*3+3)) _
  rwa[show o*3+3=(o+1)*3 by omega]
theorem kcells_flat_len (ks:List KC):(ks.flatMap kcells).length=ks.length*3:=by
 induction ks with
 |nil=>rfl
 |cons k ks ih=>rw[List.flatMap_cons,List.length_append,ih];show 3+_=_;simp;omega
theorem rdKC {D}{x:Sl}{ks:List KC}{w L R}(h:Sat w L)(t:Take L (Own D) R)(hk:KCells D x ks):RdS w x.a (x.n*3) (ks.flatMap kcells):=by
 obtain⟨hn,hc⟩:=hk
 cases ha:x.a with
 |none=>
  cases ks with
  |nil=>rfl
  |cons k ks=>obtain⟨a,e,_⟩:=hc 0 k rfl;rw[ha]at e;cases e
 | some a =>
  refine⟨by rw[kcells_flat_len,hn],?_⟩
  have:=rdKeys (w:=w) (a:=a) ks 0 fun j k e=>by
   obtain⟨b,eb,hb⟩:=hc j k e
   rw[ha]at eb
   injection eb with eb
   subst eb
   rw[Nat.zero_add]
   exact fun i v ev=>h.dat t (hb i v ev)
  rwa[Nat.zero_mul]at this
theorem KRel.app {D}: ∀{a c:List KC} {b d:List KeyM},KRel D a b->KRel D c d->KRel D (a++c) (b++d)
 | [],_,[],_,_,k=>k
 | [],_,_::_,_,h,_=>h.elim
 |_::_,_,[],_,h,_=>h.elim
 |_::_,_,_::_,_,⟨h1,h2⟩,k=>⟨h1,KRel.app h2 k⟩
theorem KRel.len {D}: ∀{a:List KC} {b:List KeyM},KRel D a b->a.length=b.length
 | [],[],_=>rfl
 | [],_::_,h=>h.elim
 |_::_,[],h=>h.elim
 |_::_,_::_,⟨_,h⟩=>by simp[KRel.len h]
theorem levRead {c:MC}{s:MSt}{R}{w:World}{l:Nat}(h:Sat w (MSL c s R))(hl:l<c.k):
  w.cell? ((c.q l).add 1)=some (.int .i8 (lkind (c.S l).n (s.pos l)))/\w.cell? ((c.q l).add 3)=some (.pointer (lptr (c.S l) (s.pos l))):=by
 obtain⟨y,hy,h2⟩:=levOpen (levTake hl h)
 exact⟨h2.arrGet (k:=1) rfl,h2.arrGet (k:=3) rfl⟩
def cover (c:MC)(pos:Nat->Int)(dir:Int)(l:Nat):Bool:=decide (lkind (c.S l).n (pos l)=if dir=1 then 2 else 1)
def lkeys (c:MC)(pos:Nat->Int)(l:Nat):List KeyM:=match(c.S l).spans[((pos l)/2).toNat]? with|some s=>s.keys|none=>[]
def gath (c:MC)(pos:Nat->Int)(dir:Int)(n:Nat):List KeyM:=(List.range n).flatMap fun l=>if cover c pos dir l then lkeys c pos l else []
theorem gath_succ (c:MC)(pos:Nat->Int)(dir:Int)(n:Nat):gath c pos dir (n+1)=gath c pos dir n++(if cover c pos dir n then lkeys c pos n else []):=by
 unfold gath;rw[List.range_succ,List.flatMap_append];simp
theorem mstep {a b m:Nat}(h:m=a-b)(hb:b<a):a-(b+1)<m:=by omega
theorem lstep {x y i:Nat}(h:x<=i*1048576)(k:y<=1048576):x+y<=(i+1)*1048576:=by omega
theorem gather {c:MC}{s:MSt}{dir:Int}{R}{w:World}{Z:(Bool×Int)->WP}(ok:c.Ok)(hdir:dir=1\/dir= -1)(hB: ∀l,l<c.k-> ∀x∈(c.S l).spans,x.keys.length<=1048576)(hk0:s.keys.n=0)(hkn:s.kn=0)(hkc:s.kc=[])(h:Sat w (MSL c s R))
  (k: ∀(acc:List KC) (K:Sl) (s':Bool×Int) w',KRel c.D acc (gath c s.pos dir c.k)->K.n=acc.length->(s'.1=true↔ ∃l,l<c.k/\cover c s.pos dir l=true)->s'.2=c.k->Sat w' (MSL c {s with keys:=K,kn:=K.n,kc:=acc.flatMap kcells} R)->Z s' w'):
  Tr.Loop (fun(next17:(Bool×Int)->WP) (s16:Bool×Int) w=>(if(decide (s16.2<(c.k:Int)))=true then Tr.Join (fun(s18:Bool) w=>(if s18=true then∃p20,(some c.m)=some p20/\Ld (.one .ptr) (p20.add 0) (fun(MergingBuffers21:Option Addr) w=> ∃p22,(some c.m)=some p22/\Ld (.one .ptr) (p22.add 0) (fun(MergingBuffers23:Option Addr) w=> ∃p24,MergingBuffers23=some p24/\Ld (.one .sl) (p24.add 0) (fun(keys25:Sl) w=> ∃p26,(some c.m)=some p26/\Ld (.one .ptr) (p26.add 0) (fun(MergingBuffers27:Option Addr) w=> ∃p28,MergingBuffers27=some p28/\Ld (.one .sl) (p28.add 1) (fun(levels29:Sl) w=>(0<=s16.2/\s16.2<(levels29.n:Int))/\(∃e30,levels29.a=some e30/\Ld (.one .ptr) (((e30.add (s16.2.toNat*4)).add 1).add 2) (fun(span31:Option Addr) w=> ∃p32,span31=some p32/\Ld (.one .sl) (p32.add 2) (fun(Keys33:Sl) w=>AppP si152 keys25 Keys33 (fun(a34:Sl) w=>LdAt (.one .ptr) (p20.add 0) MergingBuffers21 w/\ ∃p35,MergingBuffers21=some p35/\St (p35.add 0) (.slice a34.a a34.n a34.c) (fun w=>next17 (true,(IntKind.i64.wrap (s16.2+(1:Int)))) w) w) w) w) w)) w) w) w) w) w.drew else next17 (s16.1,(IntKind.i64.wrap (s16.2+(1:Int)))) w)) (fun J_19=>(if(dir==(1:Int))=true then∃p36,(some c.m)=some p36/\Ld (.one .ptr) (p36.add 0) (fun(MergingBuffers37:Option Addr) w=> ∃p38,MergingBuffers37=some p38/\Ld (.one .sl) (p38.add 1) (fun(levels39:Sl) w=>(0<=s16.2/\s16.2<(levels39.n:Int))/\(∃e40,levels39.a=some e40/\Ld (.one (.int .i8)) (((e40.add (s16.2.toNat*4)).add 1).add 0) (fun(kind41:Int) w=>(if(kind41==(2:Int))=false then(if(dir==(-1:Int))=true then∃p42,(some c.m)=some p42/\Ld (.one .ptr) (p42.add 0) (fun(MergingBuffers43:Option Addr) w=> ∃p44,MergingBuffers43=some p44/\Ld (.one .sl) (p44.add 1) (fun(levels45:Sl) w=>(0<=s16.2/\s16.2<(levels45.n:Int))/\(∃e46,levels45.a=some e46/\Ld (.one (.int .i8)) (((e46.add (s16.2.toNat*4)).add 1).add 0) (fun(kind47:Int) w=>J_19 (kind47==(1:Int)) w) w)) w) w else J_19 false w)else J_19 true w)) w)) w) w else(if(dir==(-1:Int))=true then∃p48,(some c.m)=some p48/\Ld (.one .ptr) (p48.add 0) (fun(MergingBuffers49:Option Addr) w=> ∃p50,MergingBuffers49=some p50/\Ld (.one .sl) (p50.add 1) (fun(levels51:Sl) w=>(0<=s16.2/\s16.2<(levels51.n:Int))/\(∃e52,levels51.a=some e52/\Ld (.one (.int .i8)) (((e52.add (s16.2.toNat*4)).add 1).add 0) (fun(kind53:Int) w=>J_19 (kind53==(1:Int)) w) w)) w) w else J_19 false w)))else Z s16 w)) (false,(0:Int)) w:=by
 have k10:=ok.k10
 refine⟨fun m (x:Bool×Int) w=> ∃(i:Nat) (acc:List KC) (K:Sl),x.2=i/\i<=c.k/\m=c.k-i/\(x.1=true↔ ∃l,l<i/\cover c s.pos dir l=true)/\KRel c.D acc (gath c s.pos dir i)/\acc.length<=i*1048576/\K.n=acc.length/\Sat w (MSL c {s with keys:=K,kn:=K.n,kc:=acc.flatMap kcells} R),
  ⟨_, 0, [], s.keys, rfl, by omega, rfl, by simp, by simp [gath, KRel], by simp, hk0, by
   have e:({s with keys:=s.keys,kn:=s.keys.n,kc:=([]:List KC).flatMap kcells}:MSt)=s:=by cases s;simp_all
   rw[e];exact h⟩,?_⟩
 clear h
 rintro m ⟨fd,si⟩ w ⟨i,acc,K,e1,hi,hm,hfd,hrel,hal,hK,h⟩
 dsimp only at e1 hfd|-
 subst e1
 refine ifd (fun hlt=>?_) (fun hge=>?_)
 ·have hik:i<c.k:=by omega
  have h0:=h
  obtain⟨r1,r2⟩:=levRead h hik
  dsimp only at r1 r2
  have ew:IntKind.i64.wrap ((i:Int)+1)=((i+1:Nat):Int):=w1 om
  rw[ew,Int.toNat_natCast]
  clear ew
  have hgs:=gath_succ c s.pos dir i
  refine⟨fun(b:Bool) w=>b=cover c s.pos dir i/\Sat w (MSL c {s with keys:=K,kn:=K.n,kc:=acc.flatMap kcells} R),?_,?_⟩
  ·clear h h0 r1 r2
   rintro b w ⟨hb,h⟩
   obtain⟨r1,r2⟩:=levRead h hik
   dsimp only at r1 r2
   refine ifb (fun e=>?_) (fun e=>?_)
   ·rw[e]at hb
    rw[<-hb,if_pos rfl]at hgs
    have hv:0<=s.pos i/\s.pos i<2*(c.S i).n:=by
     have hb':=hb.symm
     unfold cover at hb'
     simp only[decide_eq_true_eq]at hb'
     unfold lkind at hb'
     by_cases hh:0<=s.pos i/\s.pos i<2*(c.S i).n
     ·exact hh
     ·rw[if_neg hh]at hb';split at hb'<;>omega
    have hj:(s.pos i/2).toNat<(c.S i).spans.length:=by rw[(ok.S i hik).len];omega
    have hs:=List.getElem?_eq_getElem hj
    obtain⟨-,-,x,hx1,ks,hx2,hx3⟩:=(ok.S i hik).at_ _ _ hs
    have hlk:lkeys c s.pos i=((c.S i).spans[(s.pos i/2).toNat]).keys:=by unfold lkeys;rw[hs]
    have hkl:ks.length<=1048576:=by rw[hx3.len];exact hB i hik _ (List.getElem_mem hj)
    have ep:lptr (c.S i) (s.pos i)=some ((c.S i).e.add ((s.pos i/2).toNat*4)):=by unfold lptr;rw[if_pos hv]
    rw[ep]at r2
    have h':=h
    unfold MSL hp MSR at h
    have hX:(c.m.add 10).add (i*4)=c.q i:=rfl
    refine⟨_,rfl,Ld1 h ⟨_,rfl,Ld1 h ⟨_,rfl,Ld1 h ⟨_,rfl,Ld1 h ⟨_,rfl,Ld1 h ⟨⟨by omega,hlt⟩,_,rfl,?_⟩⟩⟩⟩⟩⟩
    refine LdC (v:=.pointer (some ((c.S i).e.add ((s.pos i/2).toNat*4)))) (by rw[Addr.add_add];exact r2) ⟨_,rfl,?_⟩
    refine LdC (h.near.dat .k3 hx1) ?_
    have hrd:RdS w.drew x.a (x.n*3) (ks.flatMap kcells):=rdKC h.near .k3 hx2
    refine AppP_run (s:=si152) (w:=w) (d:=⟨K.a,K.n,K.c⟩) (x:=⟨x.a,x.n,x.c⟩) (new:=ks.flatMap kcells) h.t7 hrd (by show _=x.n*3;rw[kcells_flat_len,hx2.1]) (fun v hv=>?_) ?_ ?_ fun r w er ea h=>?_
    ·simp only[List.mem_flatMap]at hv
     obtain⟨y,_,hy⟩:=hv
     exact kcells_one y v hy
    ·have:=hx2.1
     show(2*(K.n+x.n)+1024)*56<=_
     omega
    ·have:=hx2.1
     dsimp only
     omega
    ·refine⟨LdAt1 h,_,rfl,St1 h rfl fun w h=>?_⟩
     have h2:=h.t7.t7.t7.t7.t7.t7.t7
     rw[<-List.flatMap_append]at h2
     have hx2n:=hx2.1
     dsimp only at er
     have hl1:(acc++ks).length=acc.length+ks.length:=List.length_append
     have hl2:(acc++ks).length<=(i+1)*1048576:=hl1▸lstep hal hkl
     have hl3:r.n=(acc++ks).length:=by rw[er,hl1,hx2n,hK]
     have hm':c.k-(i+1)<m:=mstep hm hik
     refine⟨c.k-(i+1),hm',i+1,acc++ks,r,rfl,hik,rfl,?_,?_,hl2,hl3,h2⟩
     ·simp only[true_iff]
      exact⟨i,by omega,hb.symm⟩
     ·rw[hgs,hlk];exact hrel.app hx3
   ·rw[e]at hb
    rw[<-hb,if_neg (by simp),List.append_nil]at hgs
    have hl2:acc.length<=(i+1)*1048576:=lstep (y:=0) hal (Nat.zero_le _)
    have hm':c.k-(i+1)<m:=mstep hm hik
    refine⟨c.k-(i+1),hm',i+1,acc,K,rfl,hik,rfl,?_,by rw[hgs];exact hrel,hl2,hK,h⟩
    rw[hfd]
    constructor
    ·rintro⟨l,h1,h2⟩;exact⟨l,by omega,h2⟩
    ·rintro⟨l,h1,h2⟩
     refine⟨l,?_,h2⟩
     by_cases el:l=i
     ·subst el;rw[h2]at hb;cases hb
     ·omega
  ·unfold MSL hp MSR at h
   rcases hdir with rfl|rfl
   ·refine ife (fun _=>?_) (fun hh=>by omega)
    refine⟨_,rfl,Ld1 h ⟨_,rfl,Ld1 h ⟨⟨by omega,hlt⟩,_,rfl,LdC r1 ?_⟩⟩⟩
    by_cases hk2:lkind (c.S i).n (s.pos i)=2
    ·rw[if_neg (by simp[hk2])]
     exact⟨by simp[cover,hk2],h0⟩
    ·rw[if_pos (by simpa using hk2)]
     refine ife (fun hh=>by omega) (fun _=>⟨by simp[cover,hk2],h0⟩)
   ·refine ife (fun hh=>by omega) (fun _=>ife (fun _=>?_) (fun hh=>(hh rfl).elim))
    refine⟨_,rfl,Ld1 h ⟨_,rfl,Ld1 h ⟨⟨by omega,hlt⟩,_,rfl,LdC r1 ?_⟩⟩⟩
    refine⟨?_,h0⟩
    by_cases hk1:lkind (c.S i).n (s.pos i)=1
    ·simp[cover,hk1]
    ·simp[cover,hk1]
 ·have:i=c.k:=by omega
  subst this
  exact k acc K _ w hrel hK hfd rfl h
def TrSorted (acc out:List KC):Prop:= ∃d':Nat->KC,SameI 0 acc.length (fun j=>acc.getD j kd) d'/\(∀i j,i<j->j<acc.length->(d' j).1<=(d' i).1)/\out=(List.range acc.length).map d'
theorem sortKeys {c:MC}{s:MSt}{R w}{K:Unit->WP}{acc:List KC}(hk:s.kn=s.keys.n)(hkc:s.kc=acc.flatMap kcells)(hn:s.keys.n=acc.length)(hlen:acc.length<2^40)(h:Sat w (MSL c s R))
  (k: ∀out w',TrSorted acc out->Sat w' (MSL c {s with kc:=out.flatMap kcells} R)->K () w'):CallF Tryz.prog 88 [(.iface 329 (.pointer (some (c.b.add 0))))] [] K w:=by
 have h1:=h.t7
 rw[hk,hkc,<-flat_all kcells kd acc,<-hn]at h1
 have hnone:s.keys.a=none->s.keys.n=0/\s.keys.c=0:=fun hh=>by
  obtain⟨g,hg,_⟩:=h1
  unfold Buf at hg
  rw[hh]at hg
  exact⟨hg.1,hg.2.1⟩
 obtain⟨hnc,hka,h2⟩:=bufOpen (k:=3) (p:=c.b) (fun j _=>rfl) (Nat.succ_pos _) h1
 have hn60:s.keys.n<2^60:=by omega
 have h3:=Sat.split (xs:=[.slice s.keys.a s.keys.n s.keys.c]) (ys:=[.slice (some (c.m.add 10)) c.k c.C]) h2.t7
 have h4:Sat w ((keysI c.b (s.keys.a.getD c.b) s.keys hka hn60).St (fun j=>acc.getD j kd)++_):=h3.t2
 refine call88 (data1:=.mk 329 (.pointer (some c.b))) (spec88 (I:=keysI c.b (s.keys.a.getD c.b) s.keys hka hn60) keysSWO (fun w K hs k=>keys_len w K hs k) h4 fun d' w hsm hso h=>?_)
 have h5:=Sat.join (xs:=[.slice s.keys.a s.keys.n s.keys.c]) (ys:=[.slice (some (c.m.add 10)) c.k c.C]) (h.t1.t2.t1)
 have h6:=bufShut (k:=3) (f:=fun j=>kcells (d' j)) (m:=s.keys.n) (p:=c.b) (fun j hj=>rfl) (Nat.le_refl _) hnone (h5.t1.t2.t1)
 have e:flat (fun j=>kcells (d' j)) s.keys.n=((List.range acc.length).map d').flatMap kcells:=by
  rw[hn]
  have: ∀n,flat (fun j=>kcells (d' j)) n=((List.range n).map d').flatMap kcells:=by
   intro n
   induction n with
   |zero=>rfl
   |succ n ih=>rw[flat,ih,List.range_succ,List.map_append,List.flatMap_append];simp
  exact this _
 rw[e]at h6
 refine k _ w ⟨d',by rw[<-hn];exact hsm,fun i j hij hj=>?_,rfl⟩ ?_
 ·have:=hso i j (Nat.zero_le _) hij (by show j<s.keys.n;omega)
  simp only[keysI,decide_eq_false_iff_not]at this
  omega
 ·have h7:=h6.t7.t2.t7.t7.t7.t7.t7
  unfold MSL hp MSR
  rw[hk]
  exact h7
end Go.Proofs.YtpkoddfamelnhaaGreatDoor
namespace Go.Tr
def mv :Nat->List Chunk->List Chunk
 |0,L=>L
 |_+1,[]=>[]
 |n+1,c::L=>match mv n L with
  | []=>[c]
  |d::R=>d::c::R
theorem SatU.mv {w}: ∀(n:Nat) {L} {U:Addr->Prop},SatU w U L->SatU w U (Go.Tr.mv n L)
 |0,_,_,h=>h
 |_+1,[],_,h=>h
 |n+1,c::L,U,h=>by
  have h1:=SatU.under (fun U h=>SatU.mv n h) U h
  unfold Go.Tr.mv
  split
  ·rename_i e;rw[e]at h1;exact h1
  ·rename_i d R e;rw[e]at h1;exact SatU.swap h1
theorem Sat.mv {w}(n:Nat){L}(h:Sat w L):Sat w (Go.Tr.mv n L):=SatU.mv n h
end Go.Tr
namespace Go.Proofs.YtpkoddfamelnhaaGreatDoor
open Go Go.Tr
set_option maxRecDepth 100000
theorem m214Transform :MethAt Tryz.prog 214 "Transform" 198:=by intro v w;kernel_rfl
theorem bytesOf_inj {s t:ByteArray}(h:bytesOf s=bytesOf t):s=t:=by
 unfold bytesOf at h
 have key: ∀x y:List UInt8,x.map (fun b=>Value.int .u8 b.toNat)=y.map (fun b=>Value.int .u8 b.toNat)->x=y:=by
  intro x
  induction x with
  |nil=>intro y h;cases y<;>simp_all
  | cons a x ih =>
   intro y h
   cases y with
   |nil=>simp at h
   |cons b y=>
    simp only[List.map_cons,List.cons.injEq,Value.int.injEq,true_and]at h
    rw[ih y h.2]
    have:a.toNat=b.toNat:=by exact_mod_cast h.1
    rw[UInt8.toNat.inj this]
 have:=key _ _ h
 cases s;cases t
 simp only[ByteArray.mk.injEq]
 exact Array.ext' this
theorem BytesAt.unique {D}{x:Sl}{s t:ByteArray}(h:BytesAt D x s)(k:BytesAt D x t):s=t:=by
 obtain⟨a,n,c⟩:=x
 cases a with
 |none=>exact h.1.trans k.1.symm
 | some a =>
  refine bytesOf_inj (List.ext_getElem? fun j=>?_)
  have hl:(bytesOf s).length=(bytesOf t).length:=by rw[bytesOf_length,bytesOf_length,h.1,k.1]
  by_cases hj:j<(bytesOf s).length
  ·have e1:=List.getElem?_eq_getElem hj
   have e2:=List.getElem?_eq_getElem (hl▸hj)
   obtain⟨f1,h1⟩:=h.2 j _ e1
   obtain⟨f2,h2⟩:=k.2 j _ e2
   rw[h1]at h2
   injection h2 with h2
   rw[e1,e2,(Prod.mk.inj h2).1]
  ·rw[List.getElem?_eq_none om,List.getElem?_eq_none om]
open Classical in
noncomputable def sbD (D:Hp)(k:KC):ByteArray:=if h: ∃s,BytesAt D k.2.1 s then h.choose else .empty
theorem sbD_eq {D}{k:KC}{s:ByteArray}(h:BytesAt D k.2.1 s):sbD D k=s:=by
 have hh: ∃s,BytesAt D k.2.1 s:=⟨s,h⟩
 unfold sbD
 rw[dif_pos hh]
 exact BytesAt.unique hh.choose_spec h
theorem KRel.mem {D}: ∀{a:List KC} {b:List KeyM},KRel D a b-> ∀k∈a,∃m∈b,k.1=m.tr/\BytesAt D k.2.1 m.suf/\BytesAt D k.2.2 m.val
 | [],[],_,k,hk=>by simp at hk
 | [],_::_,h,_,_=>h.elim
 |_::_,[],h,_,_=>h.elim
 | x :: a, m :: b, ⟨h1, h2⟩, k, hk => by
  rcases List.mem_cons.1 hk with rfl|hk
  ·exact⟨m,by simp,h1⟩
  ·obtain⟨m',hm,e⟩:=KRel.mem h2 k hk
   exact⟨m',List.mem_cons_of_mem _ hm,e⟩
theorem TrSorted.mem {acc out:List KC}(h:TrSorted acc out):out.length=acc.length/\ ∀x∈out,x∈acc:=by
 obtain⟨d',h1,h2,rfl⟩:=h
 refine⟨by simp,fun x hx=>?_⟩
 simp only[List.mem_map,List.mem_range]at hx
 obtain⟨j,hj,rfl⟩:=hx
 obtain⟨i,_,hi,e⟩:=h1.back (Nat.zero_le j) hj
 rw[e]
 rw[List.getD_eq_getElem?_getD,List.getElem?_eq_getElem hi]
 exact List.getElem_mem hi
theorem gath_mem {c:MC}{pos:Nat->Int}{dir:Int}{n:Nat}{m:KeyM}(h:m∈gath c pos dir n): ∃l,l<n/\ ∃x∈(c.S l).spans,m∈x.keys:=by
 unfold gath at h
 simp only[List.mem_flatMap,List.mem_range]at h
 obtain⟨l,hl,hm⟩:=h
 refine⟨l,hl,?_⟩
 split at hm
 ·unfold lkeys at hm
  cases e:(c.S l).spans[((pos l)/2).toNat]? with
  |none=>rw[e]at hm;simp at hm
  |some x=>
   rw[e]at hm
   exact⟨x,List.mem_of_getElem? e,hm⟩
 ·simp at hm
theorem not_lt_b {s t:ByteArray}: ¬bcmp s t<0↔bcmp t s<=0:=by have:=bcmp_anti s t;omega
theorem not_le_b {s t:ByteArray}: ¬bcmp s t<=0↔bcmp t s<0:=by have:=bcmp_anti s t;omega
theorem lt_le_b {s t:ByteArray}(h:bcmp s t<0):bcmp s t<=0:=Int.le_of_lt h
theorem le_refl_b (s:ByteArray):bcmp s s<=0:=Int.le_of_eq (bcmp_refl s)
structure SpansOK (l:List SpanM):Prop where
 ne: ∀(j:Nat) (s:SpanM),l[j]? =some s->bcmp s.lo s.hi<0
 so: ∀(i j:Nat) (x y:SpanM),i<j->l[i]? =some x->l[j]? =some y->bcmp x.hi y.lo<=0
 sz: ∀s∈l,s.lo.size<2^28/\s.hi.size<2^28
theorem bkey_sz {l:List SpanM}(ok:SpansOK l)(p:Nat):(bkey l p).size<2^40:=by
 unfold bkey
 cases e:l[p/2]? with
 |none=>show(0:Nat)<2^40;omega
 |some s=>
  have:=ok.sz s (List.mem_of_getElem? e)
  dsimp only
  split
  ·exact Nat.lt_trans this.1 om
  ·exact Nat.lt_trans this.2 om
theorem bkey_mono {l:List SpanM}(ok:SpansOK l){p q:Nat}(h:p<=q)(hq:q<2*l.length):bcmp (bkey l p) (bkey l q)<=0:=by
 by_cases e:p/2=q/2
 ·have hj:q/2<l.length:=by omega
  have hs:=List.getElem?_eq_getElem hj
  have h1:=ok.ne _ _ hs
  unfold bkey
  rw[e,hs]
  dsimp only
  by_cases e1:p%2=0<;>by_cases e2:q%2=0
  ·rw[if_pos e1,if_pos e2];exact le_refl_b _
  ·rw[if_pos e1,if_neg e2];exact lt_le_b h1
  ·omega
  ·rw[if_neg e1,if_neg e2];exact le_refl_b _
 ·have hj:q/2<l.length:=by omega
  have hi:p/2<l.length:=by omega
  have hs:=List.getElem?_eq_getElem hj
  have ht:=List.getElem?_eq_getElem hi
  have h1:=ok.so (p/2) (q/2) _ _ om ht hs
  have h2:=lt_le_b (ok.ne _ _ hs)
  have h3:=lt_le_b (ok.ne _ _ ht)
  unfold bkey
  rw[ht,hs]
  dsimp only
  by_cases e1:p%2=0<;>by_cases e2:q%2=0
  ·rw[if_pos e1,if_pos e2];exact bcmp_trans h3 h1
  ·rw[if_pos e1,if_neg e2];exact bcmp_trans h3 (bcmp_trans h1 h2)
  ·rw[if_neg e1,if_pos e2];exact h1
  ·rw[if_neg e1,if_neg e2];exact bcmp_trans h1 h2
def covs (l:List SpanM)(y:ByteArray):Option SpanM:=l.find? fun s=>decide (bcmp s.lo y<=0)&&decide (bcmp y s.hi<0)
theorem covs_at {l:List SpanM}(ok:SpansOK l){j:Nat}{s:SpanM}{y:ByteArray}(h:l[j]? =some s)(h1:bcmp s.lo y<=0)(h2:bcmp y s.hi<0):covs l y=some s:=by
 unfold covs
 rw[List.find?_eq_some_iff_getElem]
 obtain⟨hj,e⟩:=List.getElem?_eq_some_iff.1 h
 refine⟨by simp[h1,h2],j,hj,e,fun i hi=>?_⟩
 have h3:=ok.so i j _ _ hi (List.getElem?_eq_getElem om) h
 simp only[Bool.not_eq_true',Bool.and_eq_false_iff,decide_eq_false_iff_not]
 exact .inr (not_lt_b.2 (bcmp_trans h3 h1))
theorem covs_none {l:List SpanM}{y:ByteArray}(h: ∀(j:Nat) (s:SpanM),l[j]? =some s-> ¬(bcmp s.lo y<=0/\bcmp y s.hi<0)):covs l y=none:=by
 unfold covs
 rw[List.find?_eq_none]
 intro s hs
 obtain⟨j,hj⟩:=List.getElem?_of_mem hs
 have:=h j s hj
 simpa using this
theorem covs_some {l:List SpanM}{y:ByteArray}{s:SpanM}(h:covs l y=some s): ∃j:Nat,l[j]? =some s/\bcmp s.lo y<=0/\bcmp y s.hi<0:=by
 unfold covs at h
 have h1:=List.find?_some h
 obtain⟨j,hj⟩:=List.getElem?_of_mem (List.mem_of_find?_eq_some h)
 simp only[Bool.and_eq_true,decide_eq_true_eq]at h1
 exact⟨j,hj,h1⟩
theorem straddle {l:List SpanM}(ok:SpansOK l){q:Int}{y:ByteArray}(h0:0<=q)(h1:q<=2*l.length)(hlo: ∀p:Nat,(p:Int)<q->bcmp (bkey l p) y<=0)
  (hhi: ∀p:Nat,q<=p->p<2*l.length->bcmp y (bkey l p)<0):covs l y=if q%2=1 then l[(q/2).toNat]? else none:=by
 split
 ·rename_i hq
  have hj:(q/2).toNat<l.length:=by omega
  have hs:=List.getElem?_eq_getElem hj
  rw[hs]
  refine covs_at ok hs ?_ ?_
  ·have:=hlo (2*(q/2).toNat) om;rwa[bkey_lo hs]at this
  ·have:=hhi (2*(q/2).toNat+1) om om;rwa[bkey_hi hs]at this
 ·rename_i hq
  refine covs_none fun j s hs=>?_
  have hj:=(List.getElem?_eq_some_iff.1 hs).1
  rintro⟨g1,g2⟩
  by_cases e:(2*j+1:Int)<q
  ·have:=hlo (2*j+1) om
   rw[bkey_hi hs]at this
   exact not_lt_b.2 this g2
  ·have:=hhi (2*j) om om
   rw[bkey_lo hs]at this
   exact not_le_b.2 this g1
def LevsOK (c:MC):Prop:= ∀l,l<c.k->SpansOK (c.S l).spans
def keysAt (c:MC)(y:ByteArray):List KeyM:=(List.range c.k).flatMap fun l=>match covs (c.S l).spans y with|some s=>s.keys|none=>[]
def covd (c:MC)(y:ByteArray):Prop:= ∃l,l<c.k/\covs (c.S l).spans y≠none
def Cut (c:MC)(q:Nat->Int)(a b:ByteArray):Prop:= ∀l,l<c.k->0<=q l/\q l<=2*(c.S l).n/\(∀p:Nat,(p:Int)<q l->bcmp (bkey (c.S l).spans p) a<=0)/\
 ∀p:Nat,q l<=p->p<2*(c.S l).n->bcmp b (bkey (c.S l).spans p)<=0
def IsB (c:MC)(a:ByteArray):Prop:= ∃l,l<c.k/\ ∃p:Nat,p<2*(c.S l).n/\bkey (c.S l).spans p=a
def GapF (c:MC)(q:Nat->Int)(x:ByteArray):Prop:= ∀y,bcmp x y<=0->(∀l,l<c.k-> ∀p:Nat,q l<=p->p<2*(c.S l).n->bcmp y (bkey (c.S l).spans p)<0)-> ¬covd c y
def GapB (c:MC)(q:Nat->Int)(x:ByteArray):Prop:= ∀y,bcmp y x<0->(∀l,l<c.k-> ∀p:Nat,(p:Int)<q l->bcmp (bkey (c.S l).spans p) y<=0)-> ¬covd c y
theorem Cut.covs {c:MC}(lo:LevsOK c)(ok:c.Ok){q:Nat->Int}{a b y:ByteArray}(h:Cut c q a b)(h1:bcmp a y<=0)(h2:bcmp y b<0){l:Nat}(hl:l<c.k):
  covs (c.S l).spans y=if q l%2=1 then(c.S l).spans[(q l/2).toNat]? else none:=by
 obtain⟨g0,g1,g2,g3⟩:=h l hl
 have hn:=(ok.S l hl).len
 refine straddle (lo l hl) g0 om (fun p hp=>bcmp_trans (g2 p hp) h1) (fun p hp hq=>bcmp_lt_le h2 (g3 p hp om))
theorem Cut.gap {c:MC}{q:Nat->Int}{a b:ByteArray}(h:Cut c q a b)(hab:bcmp a b<0)(hb:IsB c b):GapF c q b:=by
 intro y h1 h2
 obtain⟨l,hl,p,hp,rfl⟩:=hb
 obtain⟨g0,g1,g2,g3⟩:=h l hl
 by_cases e:(p:Int)<q l
 ·exact absurd (g2 p e) (not_le_b.2 hab)
 ·exact absurd (h2 l hl p om hp) (not_lt_b.2 h1)
theorem Cut.gapB {c:MC}{q:Nat->Int}{a b:ByteArray}(h:Cut c q a b)(hab:bcmp a b<0)(ha:IsB c a):GapB c q a:=by
 intro y h1 h2
 obtain⟨l,hl,p,hp,rfl⟩:=ha
 obtain⟨g0,g1,g2,g3⟩:=h l hl
 by_cases e:(p:Int)<q l
 ·exact absurd (h2 l hl p e) (not_le_b.2 h1)
 ·exact absurd (g3 p om hp) (not_le_b.2 hab)
theorem Cut.mono {c:MC}{q:Nat->Int}{a b a' b':ByteArray}(h:Cut c q a b)(ha:bcmp a a'<=0)(hb:bcmp b' b<=0):Cut c q a' b':=fun l hl=>by
 obtain⟨g0,g1,g2,g3⟩:=h l hl
 exact⟨g0,g1,fun p hp=>bcmp_trans (g2 p hp) ha,fun p hp hq=>bcmp_trans hb (g3 p hp hq)⟩
theorem cover_fwd {c:MC}{pos:Nat->Int}{l:Nat}(h0:0<=pos l)(h1:pos l<=2*(c.S l).n):cover c pos 1 l=decide (pos l%2=1):=by
 unfold cover lkind
 rw[if_pos rfl]
 by_cases e:pos l%2=1
 ·rw[if_pos om,if_neg om];simp[e]
 ·by_cases e2:0<=pos l/\pos l<2*(c.S l).n
  ·rw[if_pos e2,if_pos om];simp[e]
  ·rw[if_neg e2];simp[e]
theorem cover_bwd {c:MC}{pos:Nat->Int}{l:Nat}(h0:0<=pos l+1)(h1:pos l+1<=2*(c.S l).n):cover c pos (-1) l=decide ((pos l+1)%2=1):=by
 have e0:(if(-1:Int)=1 then(2:Int)else 1)=1:=rfl
 unfold cover lkind
 rw[e0]
 by_cases e:(pos l+1)%2=1
 ·rw[if_pos (show 0<=pos l/\pos l<2*((c.S l).n:Int) by omega),if_pos (show pos l%2=0 by omega)];simp[e]
 ·by_cases e2:0<=pos l/\pos l<2*((c.S l).n:Int)
  ·rw[if_pos e2,if_neg (show¬pos l%2=0 by omega)];simp[e]
  ·rw[if_neg e2];simp[e]
theorem gath_fwd {c:MC}(lo:LevsOK c)(ok:c.Ok){pos:Nat->Int}{a b y:ByteArray}(h:Cut c pos a b)(h1:bcmp a y<=0)(h2:bcmp y b<0):
  gath c pos 1 c.k=keysAt c y/\((∃l,l<c.k/\cover c pos 1 l=true)↔covd c y):=by
 have key: ∀l,l<c.k->(if cover c pos 1 l then lkeys c pos l else [])=(match covs (c.S l).spans y with|some s=>s.keys|none=>[])/\(cover c pos 1 l=true↔covs (c.S l).spans y≠none):=fun l hl=>by
  obtain⟨g0,g1,_,_⟩:=h l hl
  rw[Cut.covs lo ok h h1 h2 hl,cover_fwd g0 g1]
  by_cases e:pos l%2=1
  ·have hj:(pos l/2).toNat<(c.S l).spans.length:=by rw[(ok.S l hl).len];omega
   simp only[e,decide_true,if_true,lkeys,List.getElem?_eq_getElem hj]
   simp
  ·simp[e]
 refine⟨?_,?_⟩
 ·unfold gath keysAt
  have: ∀n,n<=c.k->(List.range n).flatMap (fun l=>if cover c pos 1 l then lkeys c pos l else [])=(List.range n).flatMap fun l=>match covs (c.S l).spans y with|some s=>s.keys|none=>[]:=by
   intro n
   induction n with
   |zero=>intro _;rfl
   |succ n ih=>intro hn;rw[List.range_succ,List.flatMap_append,List.flatMap_append,ih om];simp[(key n om).1]
  exact this c.k (Nat.le_refl _)
 ·constructor
  ·rintro⟨l,hl,e⟩;exact⟨l,hl,(key l hl).2.1 e⟩
  ·rintro⟨l,hl,e⟩;exact⟨l,hl,(key l hl).2.2 e⟩
theorem gath_bwd {c:MC}(lo:LevsOK c)(ok:c.Ok){pos:Nat->Int}{a b y:ByteArray}(h:Cut c (fun l=>pos l+1) a b)(h1:bcmp a y<=0)(h2:bcmp y b<0):
  gath c pos (-1) c.k=keysAt c y/\((∃l,l<c.k/\cover c pos (-1) l=true)↔covd c y):=by
 have key: ∀l,l<c.k->(if cover c pos (-1) l then lkeys c pos l else [])=(match covs (c.S l).spans y with|some s=>s.keys|none=>[])/\(cover c pos (-1) l=true↔covs (c.S l).spans y≠none):=fun l hl=>by
  obtain⟨g0,g1,_,_⟩:=h l hl
  rw[Cut.covs lo ok h h1 h2 hl,cover_bwd g0 g1]
  replace g0:0<=pos l+1:=g0
  replace g1:pos l+1<=2*((c.S l).n:Int):=g1
  by_cases e:(pos l+1)%2=1
  ·have hj:((pos l+1)/2).toNat<(c.S l).spans.length:=by rw[(ok.S l hl).len];omega
   have e2:(pos l/2).toNat=((pos l+1)/2).toNat:=by omega
   simp only[e,decide_true,if_true,lkeys,e2,List.getElem?_eq_getElem hj]
   simp
  ·simp[e]
 refine⟨?_,?_⟩
 ·unfold gath keysAt
  have: ∀n,n<=c.k->(List.range n).flatMap (fun l=>if cover c pos (-1) l then lkeys c pos l else [])=(List.range n).flatMap fun l=>match covs (c.S l).spans y with|some s=>s.keys|none=>[]:=by
   intro n
   induction n with
   |zero=>intro _;rfl
   |succ n ih=>intro hn;rw[List.range_succ,List.flatMap_append,List.flatMap_append,ih om];simp[(key n om).1]
  exact this c.k (Nat.le_refl _)
 ·constructor
  ·rintro⟨l,hl,e⟩;exact⟨l,hl,(key l hl).2.1 e⟩
  ·rintro⟨l,hl,e⟩;exact⟨l,hl,(key l hl).2.2 e⟩
def ahead (c:MC)(q:Nat->Int):Nat->Nat
 |0=>0
 |n+1=>ahead c q n+(2*((c.S n).n:Int)-q n).toNat
theorem ahead_other {c:MC}{q:Nat->Int}{l:Nat}{p:Int}: ∀{n:Nat},n<=l->ahead c (upd q l p) n=ahead c q n
 |0,_=>rfl
 |n+1,h=>by rw[ahead,ahead,ahead_other om,upd_other om]
theorem ahead_next {c:MC}{q:Nat->Int}{l:Nat}(hv:q l<2*(c.S l).n): ∀{n:Nat},l<n->ahead c (upd q l (q l+1)) n+1=ahead c q n
 |0,h=>by omega
 |n+1,h=>by
  rw[ahead,ahead]
  by_cases e:l=n
  ·subst e;rw[ahead_other (Nat.le_refl _),upd_same];omega
  ·rw[upd_other om];have:=ahead_next hv (n:=n) om;omega
def behind (q:Nat->Int):Nat->Nat
 |0=>0
 |n+1=>behind q n+(q n+1).toNat
theorem behind_other {q:Nat->Int}{l:Nat}{p:Int}: ∀{n:Nat},n<=l->behind (upd q l p) n=behind q n
 |0,_=>rfl
 |n+1,h=>by rw[behind,behind,behind_other om,upd_other om]
theorem behind_prev {q:Nat->Int}{l:Nat}(hv:0<=q l): ∀{n:Nat},l<n->behind (upd q l (q l-1)) n+1=behind q n
 |0,h=>by omega
 |n+1,h=>by
  rw[behind,behind]
  by_cases e:l=n
  ·subst e;rw[behind_other (Nat.le_refl _),upd_same];omega
  ·rw[upd_other om];have:=behind_prev hv (n:=n) om;omega
end Go.Proofs.YtpkoddfamelnhaaGreatDoor
