/- Part 18 of the proof of fnBatchHistory_card. Conditions: none. -/
import Derived.Test.YtpkoddfamelnhaaGreatDoorH17
set_option linter.unusedVariables false
set_option linter.unusedSimpArgs false
namespace Go.Proofs.YtpkoddfamelnhaaGreatDoor
open Go Go.Tr
set_option maxRecDepth 100000
theorem m217SeekGE :MethAt Tryz.prog 217 "SeekGE" 205:=by intro v w;kernel_rfl
theorem m217Next :MethAt Tryz.prog 217 "Next" 203:=by intro v w;kernel_rfl
theorem m217Prev :MethAt Tryz.prog 217 "Prev" 204:=by intro v w;kernel_rfl
theorem m217Error :MethAt Tryz.prog 217 "Error" 200:=by intro v w;kernel_rfl
theorem m219SeekGE :MethAt Tryz.prog 219 "SeekGE" 247:=by intro v w;kernel_rfl
theorem m219Next :MethAt Tryz.prog 219 "Next" 245:=by intro v w;kernel_rfl
theorem m219Prev :MethAt Tryz.prog 219 "Prev" 246:=by intro v w;kernel_rfl
theorem m219Error :MethAt Tryz.prog 219 "Error" 242:=by intro v w;kernel_rfl
theorem MSU.take {c:MC}{s:MSt}{v:UC}{u:UV}{x:Chunk}{R}:Take (MSU c s v u (x::R)) x (MSU c s v u R):=
 .there .k13
theorem MSU.there {c:MC}{s:MSt}{v:UC}{u:UV}{x:Chunk}{R R'}(t:Take R x R'):Take (MSU c s v u R) x (MSU c s v u R'):=
 .there (.there (.there (.there (.there (.there (.there (.there (.there (.there (.there (.there (.there (.there t)))))))))))))
def BI (c:MC)(bi:Addr)(isp:Option Addr):Chunk:=Arr bi [.iface 217 (.pointer (some c.m)),.pointer isp,cmpV,.nilFunc,.slice none 0 0,.slice none 0 0,.pointer none,.pointer none,.int .i8 0]
theorem spec249 {c:MC}{bi:Addr}{isp sp:Option Addr}{L R w}{K:Option Addr->WP}(h:Sat w L)(t:Take L (BI c bi isp) R)(k: ∀w',Sat w' L->K sp w'):F249 (some bi) sp K w:=by
 unfold F249
 refine⟨fun(b:Bool) w=>b=false/\Sat w L,?_,?_⟩
 ·rintro b w ⟨rfl,h⟩;exact ifb (fun hh=>by cases hh) (fun _=>k _ h)
 ·cases sp with
  |none=>exact ifNNone ⟨rfl,h⟩
  |some p=>
   have h2:=h.take t
   unfold BI at h2
   exact ifNSome ⟨_,rfl,Ld1 h2 (ifNNone ⟨rfl,h.near⟩)⟩
theorem spec251 {c:MC}{bi:Addr}{isp sp:Option Addr}{L R w}{K:Option Addr->WP}(h:Sat w L)(t:Take L (BI c bi isp) R)(k: ∀w',Sat w' L->K sp w'):F251 (some bi) sp K w:=by
 unfold F251
 cases sp with
 |none=>exact ifNNone (k _ h.near)
 |some p=>
  have h2:=h.take t
  unfold BI at h2
  exact ifNSome ⟨_,rfl,Ld1 h2 (ifNNone (k _ h.near))⟩
theorem spec250 {c:MC}{bi:Addr}{isp sp:Option Addr}{L L' R w}{K:Option Addr->WP}(h:Sat w L)(t:Take L (BI c bi isp) R)(t':Take L' (BI c bi sp) R)(k: ∀w',Sat w' L'->K sp w'):F250 (some bi) sp K w:=by
 unfold F250
 refine⟨fun(s3:Option Addr) w=>s3=sp/\Sat w L,?_,?_⟩
 ·rintro _ w ⟨rfl,h⟩
  have h2:=h.take t
  unfold BI at h2
  refine⟨_,rfl,St1 h2 rfl fun w h2=>⟨_,rfl,Ld1 h2 ?_⟩⟩
  exact ifne (fun hh=>(hh rfl).elim) (fun _=>k w (Sat.untake h2 t'))
 ·have h2:=h.take t
  unfold BI at h2
  cases sp with
  |none=>exact ifNNone ⟨rfl,h.near⟩
  |some p=>
   refine ifNSome ⟨_,rfl,Ld1 h2 ?_⟩
   exact ifNNone (α:=Addr) ⟨rfl,h.near⟩
theorem spec252 {c:MC}{bi:Addr}{isp sp:Option Addr}{L L' R w}{K:Option Addr->WP}(h:Sat w L)(t:Take L (BI c bi isp) R)(t':Take L' (BI c bi sp) R)(k: ∀w',Sat w' L'->K sp w'):F252 (some bi) sp K w:=by
 unfold F252
 refine⟨fun(s3:Option Addr) w=>s3=sp/\Sat w L,?_,?_⟩
 ·rintro _ w ⟨rfl,h⟩
  have h2:=h.take t
  unfold BI at h2
  refine⟨_,rfl,St1 h2 rfl fun w h2=>⟨_,rfl,Ld1 h2 ?_⟩⟩
  exact ifne (fun hh=>(hh rfl).elim) (fun _=>k w (Sat.untake h2 t'))
 ·have h2:=h.take t
  unfold BI at h2
  cases sp with
  |none=>exact ifNNone ⟨rfl,h.near⟩
  |some p=>
   refine ifNSome ⟨_,rfl,Ld1 h2 ?_⟩
   exact ifNNone (α:=Addr) ⟨rfl,h.near⟩
theorem spec247 {c:MC}{s:MSt}{v:UC}{u:UV}{bi:Addr}{isp:Option Addr}{kb:ByteArray}{key:Sl}{R R'}{kc:Chunk}{w}{K:Option Addr->WP}(cx:CtxOK c v)(hkn:KN s)(t:Take R kc R')(hkey: ∀w L,Sat w (kc::L)->RdB w key.a key.n kb)
  (h:Sat w (MSU c s v u (BI c bi isp::R)))
  (k0: ∀s' u' w',s'.N=0->(∀y,bcmp kb y<=0-> ¬covd c y)->Sat w' (MSU c s' v u' (BI c bi none::R))->K none w')
  (k1: ∀s' a b sets u' w',Fwd c s'->Cut c s'.pos a b->Frag c v.sn s' a b sets->bcmp kb b<0->(∀y,bcmp kb y<=0->bcmp y a<0-> ¬covd c y)->Sat w' (MSU c s' v u' (BI c bi (some (c.m.add 4))::R))->K (some (c.m.add 4)) w'):F247 (some bi) key K w:=by
 unfold F247
 have h2:=h.take MSU.take
 unfold BI at h2
 refine⟨_,rfl,Ld1 h2 ?_⟩
 refine CallI_run m217SeekGE (call205 (key2:=key) (spec205 cx hkn (.there t) hkey h.near ?_ ?_))
 ·intro s' u' w hz hn h
  exact call249 (spec249 h MSU.take fun w h=>call251 (spec251 h MSU.take fun w h=>call250 (spec250 h MSU.take MSU.take fun w h=>k0 s' u' w hz hn h)))
 ·intro s' a b sets u' w f1 f2 f3 f4 f5 h
  exact call249 (spec249 h MSU.take fun w h=>call251 (spec251 h MSU.take fun w h=>call250 (spec250 h MSU.take MSU.take fun w h=>k1 s' a b sets u' w f1 f2 f3 f4 f5 h)))
theorem spec245 {c:MC}{s:MSt}{v:UC}{u:UV}{bi:Addr}{isp:Option Addr}{x:ByteArray}{R w}{K:Option Addr->WP}(cx:CtxOK c v)(hn:NextAt c s x)(h:Sat w (MSU c s v u (BI c bi isp::R)))
  (k0: ∀s' u' w',s'.N=0->(∀y,bcmp x y<=0-> ¬covd c y)->Sat w' (MSU c s' v u' (BI c bi none::R))->K none w')
  (k1: ∀s' a b sets u' w',Fwd c s'->Cut c s'.pos a b->Frag c v.sn s' a b sets->bcmp x a<=0->(∀y,bcmp x y<=0->bcmp y a<0-> ¬covd c y)->Sat w' (MSU c s' v u' (BI c bi (some (c.m.add 4))::R))->K (some (c.m.add 4)) w'):F245 (some bi) K w:=by
 unfold F245
 have h2:=h.take MSU.take
 unfold BI at h2
 refine⟨_,rfl,Ld1 h2 ?_⟩
 refine ife (fun hh=>by omega) (fun _=>ife (fun _=>?_) (fun hh=>(hh rfl).elim))
 refine⟨fun _ w=>Sat w (MSU c s v u (BI c bi isp::R)),?_,?_⟩
 ·rintro _ w h
  refine⟨fun _ w=>Sat w (MSU c s v u (BI c bi isp::R)),?_,?_⟩
  ·rintro _ w h
   have h2:=h.take MSU.take
   unfold BI at h2
   refine⟨_,rfl,Ld1 h2 ?_⟩
   refine CallI_run m217Next (call203 (spec203 cx hn h.near ?_ ?_))
   ·intro s' u' w hz hn h
    exact call249 (spec249 h MSU.take fun w h=>call250 (spec250 h MSU.take MSU.take fun w h=>k0 s' u' w hz hn h))
   ·intro s' a b sets u' w f1 f2 f3 f4 f5 h
    exact call249 (spec249 h MSU.take fun w h=>call250 (spec250 h MSU.take MSU.take fun w h=>k1 s' a b sets u' w f1 f2 f3 f4 f5 h))
  ·refine⟨fun b w=>b=false/\Sat w (MSU c s v u (BI c bi isp::R)),?_,?_⟩
   ·rintro b w ⟨rfl,h⟩;exact ifb (fun hh=>by cases hh) (fun _=>h)
   ·have h2:=h.take MSU.take
    unfold BI at h2
    refine⟨_,rfl,Ld1 h2 ?_⟩
    cases isp with
    |none=>exact ifNNone ⟨rfl,h.near⟩
    |some p=>exact ifNSome ⟨_,rfl,Ld1 h2 (ifNNone ⟨rfl,h.near⟩)⟩
 ·refine⟨_,rfl,Ld1 h2 ?_⟩
  cases isp with
  |none=>exact ifNNone h.near
  |some p=>
   refine ifNSome ⟨_,rfl,Ld1 h2 ?_⟩
   exact ifNNone (α:=Addr) h.near
theorem spec246 {c:MC}{s:MSt}{v:UC}{u:UV}{bi:Addr}{isp:Option Addr}{x:ByteArray}{R w}{K:Option Addr->WP}(cx:CtxOK c v)(hn:PrevAt c s x)(h:Sat w (MSU c s v u (BI c bi isp::R)))
  (k0: ∀s' u' w',s'.N=0->s'.dir= -1->KN s'->(∀l,l<c.k->s'.pos l= -1)->(∀y,bcmp y x<0-> ¬covd c y)->Sat w' (MSU c s' v u' (BI c bi none::R))->K none w')
  (k1: ∀s' a b sets u' w',Bwd c s'->Cut c (fun l=>s'.pos l+1) a b->Frag c v.sn s' a b sets->bcmp b x<=0->(∀y,bcmp b y<=0->bcmp y x<0-> ¬covd c y)->Sat w' (MSU c s' v u' (BI c bi (some (c.m.add 4))::R))->K (some (c.m.add 4)) w'):F246 (some bi) K w:=by
 unfold F246
 have h2:=h.take MSU.take
 unfold BI at h2
 refine⟨_,rfl,Ld1 h2 ?_⟩
 refine ife (fun hh=>by omega) (fun _=>ife (fun _=>?_) (fun hh=>(hh rfl).elim))
 refine⟨fun _ w=>Sat w (MSU c s v u (BI c bi isp::R)),?_,?_⟩
 ·rintro _ w h
  refine⟨fun _ w=>Sat w (MSU c s v u (BI c bi isp::R)),?_,?_⟩
  ·rintro _ w h
   have h2:=h.take MSU.take
   unfold BI at h2
   refine⟨_,rfl,Ld1 h2 ?_⟩
   refine CallI_run m217Prev (call204 (spec204 cx hn h.near ?_ ?_))
   ·intro s' u' w hz hd hk hp hn h
    exact call251 (spec251 h MSU.take fun w h=>call252 (spec252 h MSU.take MSU.take fun w h=>k0 s' u' w hz hd hk hp hn h))
   ·intro s' a b sets u' w f1 f2 f3 f4 f5 h
    exact call251 (spec251 h MSU.take fun w h=>call252 (spec252 h MSU.take MSU.take fun w h=>k1 s' a b sets u' w f1 f2 f3 f4 f5 h))
  ·refine⟨fun b w=>b=false/\Sat w (MSU c s v u (BI c bi isp::R)),?_,?_⟩
   ·rintro b w ⟨rfl,h⟩;exact ifb (fun hh=>by cases hh) (fun _=>h)
   ·have h2:=h.take MSU.take
    unfold BI at h2
    refine⟨_,rfl,Ld1 h2 ?_⟩
    cases isp with
    |none=>exact ifNNone ⟨rfl,h.near⟩
    |some p=>exact ifNSome ⟨_,rfl,Ld1 h2 (ifNNone ⟨rfl,h.near⟩)⟩
 ·refine⟨_,rfl,Ld1 h2 ?_⟩
  cases isp with
  |none=>exact ifNNone h.near
  |some p=>
   refine ifNSome ⟨_,rfl,Ld1 h2 ?_⟩
   exact ifNNone (α:=Addr) h.near
def ErrOK (c:MC)(s:MSt):Prop:=0<s.N->s.N<=10/\mval c s.pos (s.f 0)
theorem Fwd.err {c:MC}{s:MSt}(ok:c.Ok)(h:Fwd c s):ErrOK c s:=fun h0=>⟨by have:=ok.k10;have:=h.N;omega,h.heap.ok 0 h0⟩
theorem Bwd.err {c:MC}{s:MSt}(ok:c.Ok)(h:Bwd c s):ErrOK c s:=fun h0=>⟨by have:=ok.k10;have:=h.N;omega,h.heap.ok 0 h0⟩
theorem spec200 {c:MC}{s:MSt}{R w}{K:IV->WP}(he:ErrOK c s)(h:Sat w (MSL c s R))(k: ∀w',Sat w' (MSL c s R)->K .nil w'):F200 (some c.m) K w:=by
 unfold F200
 have h':=h
 unfold MSL hp MSR at h
 refine⟨fun _ w=>0<s.N/\Sat w (MSL c s R),?_,?_⟩
 ·rintro _ w ⟨h0,h'⟩
  obtain⟨hN,hv⟩:=he h0
  have h:=h'
  unfold MSL hp MSR at h
  obtain⟨_,r2,_,_⟩:=rootRead (h'.near (w':=w.drew)) hN h0 hv
  obtain⟨y,hy,h2⟩:=levOpen (levTake hv.1 (h'.near (w':=w.drew)))
  refine⟨_,rfl,Ld1 h ⟨_,rfl,Ld1 h ⟨_,rfl,Ld1 h ⟨_,rfl,Ld1 h ⟨⟨by omega,by dsimp only;omega⟩,_,rfl,LdC r2 ⟨⟨by omega,by have:=hv.1;dsimp only;omega⟩,_,rfl,?_⟩⟩⟩⟩⟩⟩
  rw[Int.toNat_natCast]
  show Ld _ ((c.q (s.f 0)).add 0) _ _
  refine Ld1 h2 ?_
  exact CallI_run m223Error (call271 (spec271 (decI_nil (k _ h'.near))))
 ·refine⟨_,rfl,Ld1 h ⟨_,rfl,call209 (spec209 (X:=mX c s.pos) h' ?_)⟩⟩
  refine ifef (fun hp=>?_) (fun _=>?_)
  ·refine⟨_,rfl,Ld1 h ⟨IsI_enc _,?_⟩⟩
   rw[isNilI_enc]
   exact ifn (fun hh=>by cases hh) (fun _=>⟨by omega,h'⟩)
  ·refine⟨_,rfl,Ld1 h ?_⟩
   exact decI_nil (k _ h')
theorem spec242 {c:MC}{s:MSt}{v:UC}{u:UV}{bi:Addr}{isp:Option Addr}{R w}{K:IV->WP}(he:ErrOK c s)(h:Sat w (MSU c s v u (BI c bi isp::R)))(k: ∀w',Sat w' (MSU c s v u (BI c bi isp::R))->K .nil w'):F242 (some bi) K w:=by
 unfold F242
 have h2:=h.take MSU.take
 unfold BI at h2
 refine⟨_,rfl,Ld1 h2 ?_⟩
 exact CallI_run m217Error (call200 (spec200 he h.near fun w h=>decI_nil (k _ h)))
structure IsC (sn:Int)(ms:List KeyM)(svs:List (ByteArray×ByteArray)):Prop where
 so:svs.Pairwise fun a b=>bcmp a.1 b.1<0
 mem: ∀s v,(s,v)∈svs↔ ∃m∈ms,m.tr/256<sn/\m.tr%256=21/\m.suf=s/\m.val=v/\ ∀m'∈ms,m'.tr/256<sn->m.tr<m'.tr->m'.tr%256≠19/\m'.suf≠s
theorem sorted_ext {α:Type}{lt:α->α->Prop}(ir: ∀a,¬lt a a)(asy: ∀a b,lt a b-> ¬lt b a): ∀{l l':List α},l.Pairwise lt->l'.Pairwise lt->(∀x,x∈l↔x∈l')->l=l'
 | [],[],_,_,_=>rfl
 | [],b::l',_,_,h=>by have:=(h b).2 (by simp);simp at this
 |a::l,[],_,_,h=>by have:=(h a).1 (by simp);simp at this
 | a :: l, b :: l', h1, h2, h => by
  obtain⟨h1a,h1l⟩:=List.pairwise_cons.1 h1
  obtain⟨h2b,h2l⟩:=List.pairwise_cons.1 h2
  have hab:a=b:=by
   rcases List.mem_cons.1 ((h a).1 (by simp))with e|ha
   ·exact e
   ·rcases List.mem_cons.1 ((h b).2 (by simp))with e|hb
    ·exact e.symm
    ·exact absurd (h1a b hb) (asy _ _ (h2b a ha))
  subst hab
  rw[sorted_ext ir asy h1l h2l fun x=>?_]
  constructor
  ·intro hx
   rcases List.mem_cons.1 ((h x).1 (List.mem_cons_of_mem _ hx))with e|hx'
   ·subst e;exact absurd (h1a x hx) (ir x)
   ·exact hx'
  ·intro hx
   rcases List.mem_cons.1 ((h x).2 (List.mem_cons_of_mem _ hx))with e|hx'
   ·subst e;exact absurd (h2b x hx) (ir x)
   ·exact hx'
theorem IsC.unique {sn:Int}{ms:List KeyM}{a b:List (ByteArray×ByteArray)}(h:IsC sn ms a)(k:IsC sn ms b):a=b:=
 sorted_ext (fun x h=>by rw[bcmp_refl]at h;omega) (fun x y h k=>by have:=bcmp_anti x.1 y.1;omega) h.so k.so fun⟨s,v⟩=>(h.mem s v).trans (k.mem s v).symm
theorem collect_mem (sn:Int): ∀(l:List KC),l.Pairwise (fun a b=>b.1<a.1)-> ∀k,k∈(collect sn l).1↔k∈l/\vis sn k=true/\k.1%256≠19/\ ∀k'∈l,vis sn k'=true->k.1<k'.1->k'.1%256≠19
 | [],_,k=>by simp[collect]
 | x :: l, hp, k => by
  obtain⟨hx,hl⟩:=List.pairwise_cons.1 hp
  have ih:=collect_mem sn l hl k
  unfold collect
  split
  ·rename_i hv
   split
   ·rename_i h19
    simp only[List.not_mem_nil,false_iff]
    rintro⟨hk,_,hn,ha⟩
    rcases List.mem_cons.1 hk with rfl|hk
    ·exact hn h19
    ·exact ha x (by simp) hv (hx k hk) h19
   ·rename_i h19
    simp only[List.mem_cons]
    rw[ih]
    constructor
    ·rintro(rfl|⟨hk,h1,h2,h3⟩)
     ·refine⟨.inl rfl,hv,h19,fun k' hk' _ hlt=>?_⟩
      rcases hk' with rfl|hk'
      ·omega
      ·have:=hx k' hk';omega
     ·refine⟨.inr hk,h1,h2,fun k' hk' hv' hlt=>?_⟩
      rcases hk' with rfl|hk'
      ·exact h19
      ·exact h3 k' hk' hv' hlt
    ·rintro⟨hk,h1,h2,h3⟩
     rcases hk with rfl|hk
     ·exact .inl rfl
     ·exact .inr ⟨hk,h1,h2,fun k' hk'=>h3 k' (.inr hk')⟩
  ·rename_i hv
   rw[ih]
   simp only[List.mem_cons]
   constructor
   ·rintro⟨hk,h1,h2,h3⟩
    refine⟨.inr hk,h1,h2,fun k' hk' hv' hlt=>?_⟩
    rcases hk' with rfl|hk'
    ·exact absurd hv' hv
    ·exact h3 k' hk' hv' hlt
   ·rintro⟨hk,h1,h2,h3⟩
    rcases hk with rfl|hk
    ·exact absurd h1 hv
    ·exact⟨hk,h1,h2,fun k' hk'=>h3 k' (.inr hk')⟩
theorem collect_sublist (sn:Int): ∀(l:List KC),((collect sn l).1).Sublist l
 | []=>by simp[collect]
 | x :: l => by
  unfold collect
  split
  ·split
   ·exact List.nil_sublist _
   ·exact(collect_sublist sn l).cons_cons x
  ·exact(collect_sublist sn l).cons x
theorem pairwise_range {α:Type}{R:α->α->Prop}{n:Nat}{d:Nat->α}(h: ∀i j,i<j->j<n->R (d i) (d j)):((List.range n).map d).Pairwise R:=by
 rw[List.pairwise_map]
 have:=List.pairwise_lt_range (n:=n)
 refine this.imp_of_mem fun {a b} ha hb hab=>h a b hab (List.mem_range.1 hb)
theorem getD_of {l:List KC}{j:Nat}(h:j<l.length):l.getD j kd=l[j]:=by rw[List.getD_eq_getElem?_getD,List.getElem?_eq_getElem h];rfl
def Dist (l:List KC):Prop:= ∀i j,i<l.length->j<l.length->(l.getD i kd).1=(l.getD j kd).1->i=j
theorem TrSorted.desc {acc out:List KC}(h:TrSorted acc out)(hd:Dist acc):out.Pairwise (fun a b=>b.1<a.1):=by
 obtain⟨d',⟨σ,τ,h1,h2,h3,h4,h5⟩,hs,rfl⟩:=h
 refine pairwise_range fun i j hij hj=>?_
 have h6:=hs i j hij hj
 have h7:(d' i).1≠(d' j).1:=fun e=>by
  rw[h5,h5]at e
  have:=hd _ _ (h3 i (Nat.zero_le _) om).2 (h3 j (Nat.zero_le _) hj).2 e
  have:=congrArg τ this
  rw[h2,h2]at this
  omega
 omega
theorem TrSorted.all {acc out:List KC}(h:TrSorted acc out)(x:KC):x∈out↔x∈acc:=by
 refine⟨h.mem.2 x,fun hx=>?_⟩
 obtain⟨d',⟨σ,τ,h1,h2,h3,h4,h5⟩,hs,rfl⟩:=h
 obtain⟨j,hj,e⟩:=List.getElem_of_mem hx
 refine List.mem_map.2 ⟨τ j,List.mem_range.2 ?_,?_⟩
 ·rcases Nat.lt_or_ge (τ j) acc.length with hh|hh
  ·exact hh
  ·have:=h4 (τ j) (.inr hh);rw[h1]at this;omega
 ·rw[h5,h1,<-e];exact getD_of hj
theorem SufSorted.pair {sb:KC->ByteArray}{c l:List KC}(h:SufSorted sb c l)(hd:c.Pairwise (fun a b=>b.1<a.1)):l.Pairwise fun a b=>bcmp (sb a) (sb b)<0\/(sb a=sb b/\b.1<a.1):=by
 obtain⟨d',⟨σ,τ,h1,h2,h3,h4,h5⟩,hs,rfl⟩:=h
 refine pairwise_range fun i j hij hj=>?_
 obtain⟨g1,g2⟩:=hs i j (Nat.zero_le _) hij hj
 simp only[decide_eq_false_iff_not]at g1 g2
 have hi':=(h3 i (Nat.zero_le _) om).2
 have hj':=(h3 j (Nat.zero_le _) hj).2
 by_cases e:bcmp (sb (d' i).1) (sb (d' j).1)<0
 ·exact .inl e
 ·refine .inr ⟨bcmp_zero (by have:=bcmp_anti (sb (d' i).1) (sb (d' j).1);omega),?_⟩
  have g3:=g2 e
  rw[h5,h5]at g3|-
  dsimp only at g3|-
  rw[getD_of hi',getD_of hj']
  exact List.pairwise_iff_getElem.1 hd _ _ hi' hj' g3
theorem SufSorted.all {sb:KC->ByteArray}{c l:List KC}(h:SufSorted sb c l)(x:KC):x∈l↔x∈c:=by
 refine⟨h.mem.2 x,fun hx=>?_⟩
 obtain⟨d',⟨σ,τ,h1,h2,h3,h4,h5⟩,hs,rfl⟩:=h
 obtain⟨j,hj,e⟩:=List.getElem_of_mem hx
 refine List.mem_map.2 ⟨τ j,List.mem_range.2 ?_,?_⟩
 ·rcases Nat.lt_or_ge (τ j) c.length with hh|hh
  ·exact hh
  ·have:=h4 (τ j) (.inr hh);rw[h1]at this;omega
 ·rw[h5,h1,<-e];exact getD_of hj
theorem ded_mem' (sb:KC->ByteArray): ∀(l:List KC) (p:Option ByteArray),l.Pairwise (fun a b=>bcmp (sb a) (sb b)<0\/(sb a=sb b/\b.1<a.1))->(∀s,p=some s-> ∀x∈l,bcmp s (sb x)<=0)->
  ∀k,k∈ded sb p l↔k∈l/\p≠some (sb k)/\ ∀k'∈l,sb k'=sb k->k'.1<=k.1
 | [],p,_,_,k=>by simp[ded]
 | x :: l, p, hp, hs, k => by
  obtain⟨hx,hl⟩:=List.pairwise_cons.1 hp
  unfold ded
  split
  ·rename_i e
   rw[ded_mem' sb l p hl (fun s e x hx=>hs s e x (List.mem_cons_of_mem _ hx)) k]
   simp only[List.mem_cons]
   constructor
   ·rintro⟨hk,h1,h2⟩
    refine⟨.inr hk,h1,fun k' hk' he=>?_⟩
    rcases hk' with rfl|hk'
    ·rw[he]at e;exact absurd e h1
    ·exact h2 k' hk' he
   ·rintro⟨hk,h1,h2⟩
    rcases hk with rfl|hk
    ·exact absurd e h1
    ·exact⟨hk,h1,fun k' hk'=>h2 k' (.inr hk')⟩
  ·rename_i e
   have hle: ∀y∈l,bcmp (sb x) (sb y)<=0:=fun y hy=>by
    rcases hx y hy with h|h
    ·exact Int.le_of_lt h
    ·rw[h.1];exact le_refl_b _
   simp only[List.mem_cons]
   rw[ded_mem' sb l (some (sb x)) hl (fun s e y hy=>by injection e with e;rw[<-e];exact hle y hy) k]
   constructor
   ·rintro(rfl|⟨hk,h1,h2⟩)
    ·refine⟨.inl rfl,e,fun k' hk' he=>?_⟩
     rcases hk' with rfl|hk'
     ·omega
     ·rcases hx k' hk' with h|h
      ·rw[he,bcmp_refl]at h;omega
      ·omega
    ·refine⟨.inr hk,fun e2=>h1 ?_,fun k' hk' he=>?_⟩
     ·have g1:=hs _ e2 x (by simp)
      have g2:=hle k hk
      have g3:=bcmp_anti (sb x) (sb k)
      rw[bcmp_zero (s:=sb x) (t:=sb k) om]
     ·rcases hk' with rfl|hk'
      ·exact absurd (by rw[he]) h1
      ·exact h2 k' hk' he
   ·rintro⟨hk,h1,h2⟩
    rcases hk with rfl|hk
    ·exact .inl rfl
    ·refine .inr ⟨hk,fun e2=>?_,fun k' hk'=>h2 k' (.inr hk')⟩
     injection e2 with e2
     have g1:=h2 x (.inl rfl) e2
     rcases hx k hk with h|h
     ·rw[e2,bcmp_refl]at h;omega
     ·omega
theorem ded_sorted (sb:KC->ByteArray): ∀(l:List KC) (p:Option ByteArray),l.Pairwise (fun a b=>bcmp (sb a) (sb b)<0\/(sb a=sb b/\b.1<a.1))->(∀s,p=some s-> ∀x∈l,bcmp s (sb x)<=0)->(ded sb p l).Pairwise fun a b=>bcmp (sb a) (sb b)<0
 | [],p,_,_=>by simp[ded]
 | x :: l, p, hp, hs => by
  obtain⟨hx,hl⟩:=List.pairwise_cons.1 hp
  have hle: ∀y∈l,bcmp (sb x) (sb y)<=0:=fun y hy=>by
   rcases hx y hy with h|h
   ·exact Int.le_of_lt h
   ·rw[h.1];exact le_refl_b _
  have hs': ∀s,some (sb x)=some s-> ∀y∈l,bcmp s (sb y)<=0:=fun s e y hy=>by injection e with e;rw[<-e];exact hle y hy
  unfold ded
  split
  ·exact ded_sorted sb l p hl (fun s e x hx=>hs s e x (List.mem_cons_of_mem _ hx))
  ·refine List.pairwise_cons.2 ⟨fun y hy=>?_,ded_sorted sb l _ hl hs'⟩
   obtain⟨h1,h2,_⟩:=(ded_mem' sb l _ hl hs' y).1 hy
   have g:=hle y h1
   have:bcmp (sb x) (sb y)≠0:=fun e=>h2 (by rw[bcmp_zero e])
   omega
open Classical in
noncomputable def vbD (D:Hp)(k:KC):ByteArray:=if h: ∃s,BytesAt D k.2.2 s then h.choose else .empty
theorem vbD_eq {D}{k:KC}{s:ByteArray}(h:BytesAt D k.2.2 s):vbD D k=s:=by
 have hh: ∃s,BytesAt D k.2.2 s:=⟨s,h⟩
 unfold vbD
 rw[dif_pos hh]
 exact BytesAt.unique hh.choose_spec h
theorem KRel.mem' {D}: ∀{a:List KC} {b:List KeyM},KRel D a b-> ∀m∈b,∃k∈a,k.1=m.tr/\BytesAt D k.2.1 m.suf/\BytesAt D k.2.2 m.val
 | [],[],_,k,hk=>by simp at hk
 | [],_::_,h,_,_=>h.elim
 |_::_,[],h,_,_=>h.elim
 | x :: a, m :: b, ⟨h1, h2⟩, k, hk => by
  rcases List.mem_cons.1 hk with rfl|hk
  ·exact⟨x,by simp,h1⟩
  ·obtain⟨m',hm,e⟩:=KRel.mem' h2 k hk
   exact⟨m',List.mem_cons_of_mem _ hm,e⟩
theorem KRel.trs {D}: ∀{a:List KC} {b:List KeyM},KRel D a b->a.map (·.1)=b.map (·.tr)
 | [],[],_=>rfl
 | [],_::_,h=>h.elim
 |_::_,[],h=>h.elim
 |x::a,m::b,⟨h1,h2⟩=>by simp[h1.1,KRel.trs h2]
theorem dist_of {acc:List KC}(h:(acc.map (·.1)).Nodup):Dist acc:=fun i j hi hj e=>by
 rw[getD_of hi,getD_of hj]at e
 have hi':i<(acc.map (·.1)).length:=by simpa using hi
 have hj':j<(acc.map (·.1)).length:=by simpa using hj
 exact(List.getElem_inj (h₀:=hi') (h₁:=hj') h).1 (by simpa using e)
def SVs (D:Hp):List KC->List (ByteArray×ByteArray)->Prop
 | [],[]=>True
 |k::ks,p::ps=>(BytesAt D k.2.1 p.1/\BytesAt D k.2.2 p.2)/\SVs D ks ps
 |_,_=>False
theorem SVs.map {D}: ∀{l:List KC},(∀k∈l,BytesAt D k.2.1 (sbD D k)/\BytesAt D k.2.2 (vbD D k))->SVs D l (l.map fun k=>(sbD D k,vbD D k))
 | [],_=>trivial
 |k::l,h=>⟨h k (by simp),SVs.map fun x hx=>h x (List.mem_cons_of_mem _ hx)⟩
theorem SVs.len {D}: ∀{l:List KC} {s:List (ByteArray×ByteArray)},SVs D l s->l.length=s.length
 | [],[],_=>rfl
 | [],_::_,h=>h.elim
 |_::_,[],h=>h.elim
 |_::_,_::_,⟨_,h⟩=>by simp[SVs.len h]
theorem SVs.get {D}: ∀{l:List KC} {s:List (ByteArray×ByteArray)},SVs D l s-> ∀(j:Nat) (hj:j<l.length) (hj':j<s.length),BytesAt D (l[j]).2.1 (s[j]).1/\BytesAt D (l[j]).2.2 (s[j]).2
 | [],[],_,j,hj,_=>by simp at hj
 | [],_::_,h,_,_,_=>h.elim
 |_::_,[],h,_,_,_=>h.elim
 |k::l,p::s,⟨h1,h2⟩,j,hj,hj'=>by
  cases j with
  |zero=>exact h1
  |succ j=>exact SVs.get h2 j (by simpa using hj) (by simpa using hj')
theorem Vis.sv {D}{sn:Int}{ms:List KeyM}{sets:List KC}(h:Vis D sn ms sets)(nd:(ms.map (·.tr)).Nodup): ∃svs,SVs D sets svs/\IsC sn ms svs:=by
 obtain⟨acc,out,l,hrel,hout,hl,rfl⟩:=h
 have hdesc:=hout.desc (dist_of (by rw[hrel.trs];exact nd))
 have hcd:=hdesc.sublist (collect_sublist sn out)
 have hlp:=hl.pair hcd
 have hmem: ∀k,k∈(ded (sbD D) none l).filter isSet↔k∈acc/\k.1/256<sn/\k.1%256=21/\ ∀k'∈acc,k'.1/256<sn->k.1<k'.1->k'.1%256≠19/\sbD D k'≠sbD D k:=fun k=>by
  have hv: ∀x:KC,vis sn x=true↔x.1/256<sn:=fun x=>by simp[vis]
  rw[List.mem_filter,ded_mem' (sbD D) l none hlp (fun s e=>by cases e) k,hl.all,collect_mem sn out hdesc k]
  simp only[hout.all,hv,isSet,decide_eq_true_eq,ne_eq,reduceCtorEq,not_false_eq_true,true_and]
  constructor
  ·rintro⟨⟨⟨h1,h2,h3,h4⟩,h5⟩,h6⟩
   refine⟨h1,h2,h6,fun k' hk' hv' hlt=>⟨h4 k' hk' hv' hlt,fun he=>?_⟩⟩
   have:=h5 k' ?_ he
   ·omega
   ·rw[hl.all,collect_mem sn out hdesc k']
    simp only[hout.all,hv]
    exact⟨hk',hv',h4 k' hk' hv' hlt,fun k'' hk'' hv'' hlt'=>h4 k'' hk'' hv'' om⟩
  ·rintro⟨h1,h2,h3,h4⟩
   refine⟨⟨⟨h1,h2,by omega,fun k' hk' hv' hlt=>(h4 k' hk' hv' hlt).1⟩,fun k' hk' he=>?_⟩,h3⟩
   rw[hl.all,collect_mem sn out hdesc k']at hk'
   simp only[hout.all,hv]at hk'
   refine Int.not_lt.1 fun hlt=>(h4 k' hk'.1 hk'.2.1 hlt).2 he
 have hb: ∀k∈acc,∃m∈ms,k.1=m.tr/\sbD D k=m.suf/\vbD D k=m.val:=fun k hk=>by
  obtain⟨m,hm,e1,e2,e3⟩:=hrel.mem k hk
  exact⟨m,hm,e1,sbD_eq e2,vbD_eq e3⟩
 have hb': ∀m∈ms,∃k∈acc,k.1=m.tr/\sbD D k=m.suf/\vbD D k=m.val:=fun m hm=>by
  obtain⟨k,hk,e1,e2,e3⟩:=hrel.mem' m hm
  exact⟨k,hk,e1,sbD_eq e2,vbD_eq e3⟩
 refine⟨_,SVs.map fun k hk=>?_,⟨?_,fun s v=>?_⟩⟩
 ·obtain⟨m,hm,e1,e2,e3⟩:=hrel.mem k ((hmem k).1 hk).1
  rw[sbD_eq e2,vbD_eq e3];exact⟨e2,e3⟩
 ·rw[List.pairwise_map]
  exact(ded_sorted (sbD D) l none hlp (fun s e=>by cases e)).sublist (List.filter_sublist)
 ·constructor
  ·intro h
   obtain⟨k,hk,e⟩:=List.mem_map.1 h
   injection e with es ev
   obtain⟨h1,h2,h3,h4⟩:=(hmem k).1 hk
   obtain⟨m,hm,e1,e2,e3⟩:=hb k h1
   refine⟨m,hm,by omega,by omega,by rw[<-e2,es],by rw[<-e3,ev],fun m' hm' hv' hlt=>?_⟩
   obtain⟨k',hk',g1,g2,g3⟩:=hb' m' hm'
   have:=h4 k' hk' om om
   rw[<-es,<-g2,<-g1];exact this
  ·rintro⟨m,hm,h2,h3,rfl,rfl,h4⟩
   obtain⟨k,hk,e1,e2,e3⟩:=hb' m hm
   refine List.mem_map.2 ⟨k,(hmem k).2 ⟨hk,by omega,by omega,fun k' hk' hv' hlt=>?_⟩,by rw[e2,e3]⟩
   obtain⟨m',hm',g1,g2,g3⟩:=hb k' hk'
   have:=h4 m' hm' om om
   rw[g2,g1,e2];exact this
end Go.Proofs.YtpkoddfamelnhaaGreatDoor
namespace Go.Tr
theorem Sat.absorb {w}{D:Hp}{c:Chunk}{L}(h:Sat w (Own D::c::L)): ∃G g:Hp,c g/\D.le G/\g.le G/\Sat w (Own G::L):=by
 obtain⟨G,⟨g1,g2,h1,h2,hd,rfl⟩,hg,hr⟩:=Sat.star.2 h
 have h1:g1=D:=h1
 subst h1
 refine⟨_,g2,h2,fun a x e=>by simp[e],fun a x e=>?_,_,rfl,hg,hr⟩
 have:=(hd a).resolve_right (by simp[e])
 simp[this,e]
theorem bytesAt_arr {g G:Hp}{p:Addr}{s:ByteArray}{ys:List Value}{c:Nat}(h:Arr p (bytesOf s++ys) g)(l:g.le G):BytesAt G ⟨some p,s.size,c⟩ s:=
 ⟨rfl, fun j v e => ⟨false, l _ _ (h.1 j v (by
  have hj:j<(bytesOf s).length:=(List.getElem?_eq_some_iff.1 e).1
  rw[List.getElem?_append_left hj];exact e))⟩⟩
theorem CopyP_fit {s:SI}{w w1 L}{d x:Sl}{p:Addr}{xs new:List Value}{K:Int->WP}(h:Sat w (Arr p xs::L))[Near w w1](hd:d.a=some p)(hxl:new.length<=xs.length)(hn:x.n<=d.n)
  (hx:RdS w1 x.a (x.n*s.l.length) new) (h1: ∀v∈new,v.oneCell'=true) (k: ∀w',Sat w' (Arr p (new++xs.drop new.length)::L)->K x.n w'):CopyP s d x K w1:=by
 have e:Nat.min x.n d.n=x.n:=Nat.min_eq_left hn
 obtain⟨ho,hs⟩:=setArr (p:=p) (o:=0) (vs:=new) (xs:=xs) om (h.near (w':=w1)) h1
 refine⟨new,by rw[e];exact hx,?_,?_⟩
 ·rw[hd];exact ho
 ·rw[hd,e]
  refine k _ ?_
  rw[List.take_zero,List.nil_append,Nat.zero_add]at hs
  exact hs
def Spr (A:Sl):Chunk:=fun g=>match A.a with|none=>A.n=0/\A.c=0/\ ∀a,g a=none|some a=> ∃sp:List Value,A.n+sp.length=A.c/\Arr (a.add A.n) sp g
theorem Spr.le {w}{A:Sl}{L}(h:Sat w (Spr A::L)):A.n<=A.c:=by
 obtain⟨g,hg,_⟩:=h
 unfold Spr at hg
 cases e:A.a with
 |none=>rw[e]at hg;obtain⟨h1,h2,_⟩:=hg;omega
 |some a=>rw[e]at hg;obtain⟨sp,h1,_⟩:=hg;omega
theorem zrep_len (l:List S)(n:Nat):(zrep l n).length=n*l.length:=by simp[zrep]
end Go.Tr
namespace Go.Proofs.YtpkoddfamelnhaaGreatDoor
open Go Go.Tr
set_option maxRecDepth 100000
theorem spec269 {A:Sl}{n:Nat}{w L}{K:Sl->WP}(hc:A.c<=2^41)(hn:n<=2^40)(h:Sat w L)(k: ∀A' w',A'.n=0->n<=A'.c->A'.c<=2^41->Sat w' (Spr A'::L)->K A' w'):F269 A n K w:=by
 unfold F269
 have e2:IntKind.i64.wrap ((A.c:Int)*2)=(A.c:Int)*2:=wi64 om om
 rw[e2]
 refine⟨fun(x:Int) w=>0<=x/\x<=524288/\Sat w L,?_,?_⟩
 ·rintro x w ⟨h0,h1,h⟩
  have key: ∀(m:Int),0<=m->(n:Int)<=m->m<=2^41->MakeP si87 0 m (fun r w=>K r w) w:=fun m m0 m1 m2=>by
   refine MakeP_run h ⟨by omega,by omega,by show(1:Int)*m<=_;omega,by omega⟩ fun p w h=>?_
   refine k _ _ rfl (by dsimp only;omega) (by dsimp only;omega) (h.cons fun g hg=>⟨_,?_,hg⟩)
   rw[zrep_len];show 0+m.toNat*1=m.toNat;omega
  refine ifd (fun hlt=>?_) (fun hge=>?_)
  ·exact key _ om om om
  ·exact key _ om om om
 ·refine ifd (fun _=>⟨by omega,by omega,h⟩) (fun h1=>ifd (fun _=>⟨by omega,by omega,h⟩) (fun h2=>⟨by omega,by omega,h⟩))
theorem spec267 {A src:Sl}{s:ByteArray}{D2:Hp}{L R'}{kc:Chunk}{w}{K:Sl×Sl->WP}(hc:A.c<=2^41)(hn:src.n<=2^40)(hsz:s.size=src.n)(t:Take L kc R')(hsrc: ∀w L,Sat w (kc::L)->RdB w src.a src.n s)
  (h:Sat w (Own D2::Spr A::L)) (k: ∀A' r D2' w',A'.c<=2^41->D2.le D2'->BytesAt D2' r s->Sat w' (Own D2'::Spr A'::L)->K (A',r) w'):F267 A src K w:=by
 unfold F267
 refine call268 (K:=fun r w=>CopyP si87 r.2 src (fun(c4:Int) w=>K (r.1,r.2) w) w) ?_
 unfold F268
 have hle:=Spr.le (h.t1)
 have e1:IntKind.i64.wrap ((A.c:Int)-(A.n:Int))=(A.c:Int)-A.n:=wi64 om om
 rw[e1]
 refine⟨fun(B:Sl) w=>B.n+src.n<=B.c/\B.c<=2^41/\Sat w (Own D2::Spr B::L),?_,?_⟩
 rotate_left
 ·refine ifd (fun hlt=>?_) (fun hge=>⟨by omega,hc,h⟩)
  exact call269 (a1:=A) (spec269 hc om h fun A' w a1 a2 a3 h=>⟨by omega,a3,(h.t1.take .k2).tail⟩)
 clear h hle e1
 rintro B w ⟨hfit,hB,h⟩
 have e1:IntKind.i64.wrap ((B.n:Int)+(src.n:Int))=((B.n+src.n:Nat):Int):=by rw[wi64 om om];omega
 rw[e1]
 refine⟨by omega,by omega,?_⟩
 rw[Int.toNat_natCast,show B.n+src.n-B.n=src.n by omega]
 have h0:=h
 obtain⟨a,n,c⟩:=B
 dsimp only at hfit hB|-
 by_cases hz:src.n=0
 ·
  have es:bytesOf s=[]:=List.eq_nil_of_length_eq_zero (by rw[bytesOf_length,hsz,hz])
  have hse:s= .empty:=ByteArray.ext (Array.eq_empty_of_size_eq_zero (by rw[<-hz,<-hsz];rfl))
  have hsub:(sub a 1 n (n+src.n) (n+src.n)).a=a:=by unfold sub;rw[if_pos om]
  rw[hsub,hz]
  refine⟨[],?_,?_,?_⟩
  ·have:=hsrc w _ (h.take (.there (.there t)))
   show RdS w src.a (Nat.min src.n 0*1) []
   cases e:src.a with
   |none=>rfl
   |some p=>exact⟨by simp,fun j v e=>by simp at e⟩
  ·cases a with
   |none=>exact trivial
   |some a=>exact fun j v e=>by simp at e
  ·have hst:stS w a 0 []=w:=by cases a<;>rfl
   show K (⟨a,n+0,c⟩,⟨a,0,0⟩) (stS w a 0 [])
   rw[hst]
   refine k _ _ D2 w hB (Hp.le_refl _) ?_ ?_
   ·cases a with
    |none=>exact⟨hse,rfl⟩
    |some a=>exact⟨by rw[hsz,hz],fun j v e=>by rw[es]at e;simp at e⟩
   ·exact h
 ·obtain⟨g,hg,_⟩:=h.t1
  cases a with
  |none=>
   unfold Spr at hg
   have:=hg.2.1
   dsimp only at this
   omega
  | some a =>
   have hsub:(sub (some a) 1 n (n+src.n) (n+src.n)).a=some (a.add n):=by unfold sub;rw[if_neg om,Nat.mul_one];rfl
   rw[hsub]
   have h1:Sat w ((fun g=> ∃sp:List Value,n+sp.length=c/\Arr (a.add n) sp g)::Own D2::L):=h.t1
   obtain⟨sp,hsp,h2⟩:=Sat.ex h1
   have esp:sp=sp.take src.n++sp.drop src.n:=(List.take_append_drop _ _).symm
   have htl:(sp.take src.n).length=src.n:=by rw[List.length_take];omega
   rw[esp]at h2
   have h3:=h2.split
   rw[htl]at h3
   have hrd:=(hsrc w _ (h.take (.there (.there t)))).rdS
   refine CopyP_fit (p:=a.add n) (xs:=sp.take src.n) (new:=bytesOf s) h3 rfl (by rw[bytesOf_length,htl,hsz];exact Nat.le_refl _) (Nat.le_refl _) hrd (bytes_one s) fun w h=>?_
   have ed:(sp.take src.n).drop (bytesOf s).length=[]:=List.drop_eq_nil_of_le (by rw[bytesOf_length,htl,hsz];exact Nat.le_refl _)
   rw[ed]at h
   obtain⟨D2',g',hg',l1,l2,h4⟩:=Sat.absorb (h.t2)
   refine k _ _ D2' w hB l1 ?_ (h4.cons (fun _ h=>h)|>.t1.cons (fun g hg=>⟨sp.drop src.n,?_,?_⟩)|>.t1)
   ·have:=bytesAt_arr (c:=src.n) hg' l2
    rw[hsz]at this
    exact this
   ·rw[List.length_drop];dsimp only;omega
   ·rw[Addr.add_add]at hg;exact hg
end Go.Proofs.YtpkoddfamelnhaaGreatDoor
namespace Go.Tr
instance Nth.zz {v:Value}{vs:List Value}:Nth (v::vs) (0+0) v (fun x=>x::vs):=⟨rfl,fun _=>rfl⟩
instance AtI.add3 {p:Addr}{vs:List Value}{i j k:Nat}{v:Value}{u:Value->List Value}[h:Nth vs (i+j+k) v u]:AtI (Arr p vs) (((p.add i).add j).add k) v (fun x=>Arr p (u x)):=
 ⟨by have:=at_arr (p:=p) h.get;simp only[h.set]at this;rw[Addr.add_add,Addr.add_add,<-Nat.add_assoc];exact this⟩
def nb (l:List Nat):List Value:=l.map fun(x:Nat)=>Value.int .u8 (x:Int)
def bl (s:ByteArray):List Nat:=s.data.toList.map (·.toNat)
theorem bytesOf_bl (s:ByteArray):bytesOf s=nb (bl s):=by
 unfold bytesOf nb bl
 rw[List.map_map];rfl
theorem bl_len (s:ByteArray):(bl s).length=s.size:=by unfold bl;rw[List.length_map,Array.length_toList];rfl
theorem nb_len (l:List Nat):(nb l).length=l.length:=by unfold nb;rw[List.length_map]
theorem nb_app (a b:List Nat):nb (a++b)=nb a++nb b:=by unfold nb;rw[List.map_append]
theorem nb_one (l:List Nat): ∀v∈nb l,v.oneCell'=true:=fun v hv=>by
 obtain⟨x,_,rfl⟩:=List.mem_map.1 hv;rfl
def vi (n:Nat):List Nat:=if n<128 then [n]else(n%128+128)::vi (n/128)
 termination_by n
 decreasing_by omega
theorem vi_lt {n:Nat}(h:n<128):vi n=[n]:=by rw[vi,if_pos h]
theorem vi_ge {n:Nat}(h: ¬n<128):vi n=(n%128+128)::vi (n/128):=by rw[vi,if_neg h]
theorem vi_pos (n:Nat):1<=(vi n).length:=by
 by_cases h:n<128
 ·rw[vi_lt h];exact Nat.le_refl 1
 ·rw[vi_ge h];simp
theorem vi_len4 {n:Nat}(h:n<2^28):(vi n).length<=4:=by
 by_cases h1:n<128
 ·rw[vi_lt h1];simp
 rw[vi_ge h1]
 by_cases h2:n/128<128
 ·rw[vi_lt h2];simp
 rw[vi_ge h2]
 by_cases h3:n/128/128<128
 ·rw[vi_lt h3];simp
 rw[vi_ge h3,vi_lt om];simp
theorem or128 : ∀y:Fin 256,IntKind.u8.wrap ((BitVec.ofInt IntKind.u8.bits (y.val:Int)|||BitVec.ofInt IntKind.u8.bits (128:Int)).toNat:Int)=((y.val%128+128:Nat):Int):=by decide +kernel
theorem vi_or {n:Nat}:IntKind.u8.wrap ((BitVec.ofInt IntKind.u8.bits (IntKind.u8.wrap (n:Int))|||BitVec.ofInt IntKind.u8.bits (128:Int)).toNat:Int)=((n%128+128:Nat):Int):=by
 have e:IntKind.u8.wrap (n:Int)=((n%256:Nat):Int):=by simp only[IntKind.wrap,IntKind.bits,IntKind.signed,Bool.false_and,Bool.false_eq_true,if_false];omega
 rw[e,or128 ⟨n%256,by omega⟩]
 show(((n%256)%128+128:Nat):Int)=_
 congr 1;omega
theorem fdiv7 {n b:Nat}(hb:7<=b):((n:Int).fdiv (2^(min 7 b)))=((n/128:Nat):Int):=by
 rw[Nat.min_eq_left hb,Int.fdiv_eq_ediv_of_nonneg _ (by decide)]
 rfl
theorem arrSt {w w1}{a:Addr}{pre post:List Value}{y x:Value}{i:Nat}{L}{K:WP}(h:Sat w (Arr a (pre++y::post)::L))[Near w w1](hi:i=pre.length)(h1:x.oneCell'=true)
  (k: ∀w',Sat w' (Arr a (pre++x::post)::L)->K w'):St (a.add (i*1)) x K w1:=by
 subst hi
 rw[Nat.mul_one]
 have hat:=at_arr (p:=a) (vs:=pre++y::post) (k:=pre.length) (v:=y) (by simp)
 have h':=h.near (w':=w1)
 refine⟨h1,⟨_,(h'.get hat).1⟩,(h'.get hat).2,k _ ?_⟩
 have h3:=h'.set hat x
 simpa using h3
theorem arrCopy {s:SI}{w w1}{a:Addr}{pre junk post new:List Value}{d x:Sl}{L}{K:Int->WP}(h:Sat w (Arr a (pre++(junk++post))::L))[Near w w1](hd:0<new.length->d.a=some (a.add pre.length))(hj:junk.length=new.length)(hn:x.n<=d.n)(hnn:new.length=x.n*s.l.length)
  (hx:RdS w1 x.a (x.n*s.l.length) new) (h1: ∀v∈new,v.oneCell'=true) (k: ∀w',Sat w' (Arr a (pre++(new++post))::L)->K x.n w'):CopyP s d x K w1:=by
 have e:Nat.min x.n d.n=x.n:=Nat.min_eq_left hn
 have h':=h.near (w':=w1)
 rcases Nat.eq_zero_or_pos new.length with h0|h0
 ·have en:new=[]:=List.length_eq_zero_iff.1 h0
  have ej:junk=[]:=List.length_eq_zero_iff.1 om
  subst en ej
  refine⟨[],by rw[e];exact hx,?_,?_⟩
  ·unfold StOkS
   cases d.a with
   |none=>trivial
   |some p=>exact fun j v hv=>by simp at hv
  ·rw[e]
   have:stS w1 d.a 0 []=w1:=by unfold stS;cases d.a<;>rfl
   rw[this]
   exact k w1 h'
 ·obtain⟨ho,hs⟩:=setArr (p:=a) (o:=pre.length) (vs:=new) (xs:=pre++(junk++post)) (by simp only[List.length_append];omega) h' h1
  refine⟨new,by rw[e];exact hx,?_,?_⟩
  ·rw[hd h0];exact ho
  ·rw[hd h0,e]
   refine k _ ?_
   have e2:(pre++(junk++post)).take pre.length++new++(pre++(junk++post)).drop (pre.length+new.length)=pre++(new++post):=by
    rw[List.take_left' rfl,<-hj,<-List.drop_drop,List.drop_left' rfl,List.drop_left' rfl,List.append_assoc]
   rw[e2]at hs
   exact hs
theorem ifnef {a b:Int}{A B:Prop}(x:a≠b->B)(y:a=b->A):if(a !=b)=false then A else B:=by
 by_cases h:a=b
 ·rw[if_pos (by simpa using h)];exact y h
 ·rw[if_neg (by simpa using h)];exact x h
theorem ifSomeF {α:Type}{x:α}{A B:Prop}(a:A):if(some x).isNone=false then A else B:=by rw[if_pos (by simp)];exact a
def pt :Nat->List Chunk->List Chunk
 |0,L=>L
 |_+1,[]=>[]
 |_+1,[c]=>[c]
 |n+1,c::d::L=>d::pt n (c::L)
theorem SatU.pt {w}: ∀(n:Nat) {L} {U:Addr->Prop},SatU w U L->SatU w U (Go.Tr.pt n L)
 |0,_,_,h=>h
 |_+1,[],_,h=>h
 |_+1,[_],_,h=>h
 |n+1,c::d::L,U,h=>SatU.under (fun U h=>SatU.pt n h) U (SatU.swap h)
theorem Sat.pt {w}(n:Nat){L}(h:Sat w L):Sat w (Go.Tr.pt n L):=SatU.pt n h
end Go.Tr
namespace Go.Proofs.YtpkoddfamelnhaaGreatDoor
open Go Go.Tr
set_option maxRecDepth 100000
theorem rdRows {w}: ∀(ks:List KC) (e:Addr),RdL w e (ks.flatMap kcells)-> ∀(j:Nat) (hj:j<ks.length),RdL w (e.add (j*3)) (kcells ks[j])
 | [],_,_,j,hj=>by simp at hj
 | k :: ks, e, h, j, hj => by
  rw[List.flatMap_cons]at h
  cases j with
  |zero=>rw[Nat.zero_mul];exact h.left
  |succ j=>
   have h2:=rdRows ks _ h.right j (by simpa using hj)
   rw[Addr.add_add,show(kcells k).length+j*3=(j+1)*3 by show 3+j*3=_;omega]at h2
   exact h2
theorem bufRow {w L R}{b:Sl}{ks:List KC}(h:Sat w L)(t:Take L (Buf 3 b (ks.flatMap kcells)) R){j:Nat}(hj:j<ks.length): ∃e,b.a=some e/\RdL w (e.add (j*3)) (kcells ks[j]):=by
 obtain⟨g,hg,hh,_⟩:=h.take t
 unfold Buf at hg
 cases ha:b.a with
 |none=>
  rw[ha]at hg
  have:=congrArg List.length hg.2.2.1
  rw[kcells_flat_len]at this
  simp only[List.length_nil]at this
  omega
 |some e=>
  rw[ha]at hg
  obtain⟨h1,sp,h2,h3⟩:=hg
  exact⟨e,rfl,rdRows ks e (RdL.left (ys:=sp) fun j v ev=>(hh _ _ (h3.1 j v ev)).1) j hj⟩
theorem SVs.mono {D D':Hp}(hd:D.le D'): ∀{l:List KC} {s:List (ByteArray×ByteArray)},SVs D l s->SVs D' l s
 | [],[],_=>trivial
 | [],_::_,h=>h.elim
 |_::_,[],h=>h.elim
 |_::_,_::_,⟨h1,h2⟩=>⟨⟨h1.1.mono hd,h1.2.mono hd⟩,SVs.mono hd h2⟩
theorem SVs.app {D}: ∀{a c:List KC} {b d:List (ByteArray×ByteArray)},SVs D a b->SVs D c d->SVs D (a++c) (b++d)
 | [],_,[],_,_,k=>k
 | [],_,_::_,_,h,_=>h.elim
 |_::_,_,[],_,h,_=>h.elim
 |_::_,_,_::_,_,⟨h1,h2⟩,k=>⟨h1,SVs.app h2 k⟩
structure DSt where
 isp:Option Addr
 ipos:Int
 cs:Sl
 ce:Sl
 ck:Sl
 ord:Int
 A:Sl
 KB:Sl
 kb:Sl
 D2:Hp
 ks:List KC
 kbb:ByteArray
def DL (v:UC)(di bi:Addr)(d:DSt)(R:List Chunk):List Chunk:=
 Arr di [.pointer (some (v.bf.add 6)),.pointer (some v.cq),eqV,.iface 219 (.pointer (some bi)),.pointer d.isp,.int .i8 d.ipos,.slice d.cs.a d.cs.n d.cs.c,.slice d.ce.a d.ce.n d.ce.c,.slice d.ck.a d.ck.n d.ck.c,.int .i8 d.ord,.iface 214 (.pointer (some v.ui)),.func (.func 63) #[] #[]]::
 Arr (v.bf.add 6) [.slice d.A.a d.A.n d.A.c,.slice d.KB.a d.KB.n d.KB.c,.slice d.kb.a d.kb.n d.kb.c]::Own d.D2::Spr d.A::Buf 3 d.KB (d.ks.flatMap kcells)::Buf 1 d.kb (bytesOf d.kbb)::R
def DR (v:UC)(di bi:Addr)(d:DSt)(R:List Chunk):List Chunk:=
 Arr di [.pointer (some (v.bf.add 6)),.pointer (some v.cq),eqV,.iface 219 (.pointer (some bi)),.pointer d.isp,.int .i8 d.ipos,.slice d.cs.a d.cs.n d.cs.c,.slice d.ce.a d.ce.n d.ce.c,.slice d.ck.a d.ck.n d.ck.c,.int .i8 d.ord,.iface 214 (.pointer (some v.ui)),.func (.func 63) #[] #[]]::
 Arr (v.bf.add 6) [.slice d.A.a d.A.n d.A.c,.slice d.KB.a d.KB.n d.KB.c,.slice d.kb.a d.kb.n d.kb.c]::Buf 3 d.KB (d.ks.flatMap kcells)::Buf 1 d.kb (bytesOf d.kbb)::R
def WX (c:MC)(s:MSt)(v:UC)(u:UV)(bi:Addr)(isp:Option Addr)(di:Addr)(d:DSt)(R:List Chunk):List Chunk:=MSU c s v u (BI c bi isp::DL v di bi d R)
theorem spec266 {c:MC}{s:MSt}{v:UC}{u:UV}{bi di:Addr}{isp:Option Addr}{d:DSt}{R}{kc:Chunk}{b:Sl}{t:ByteArray}{w}{K:Sl->WP}(hA:d.A.c<=2^41)(ht:t.size<2^40)(hk: ∀L0,∃R',Take (MSU c s v u L0) kc R')(hsrc: ∀w L,Sat w (kc::L)->RdB w b.a b.n t)
  (h:Sat w (WX c s v u bi isp di d R)) (k: ∀A' r D2' w',A'.c<=2^41->d.D2.le D2'->BytesAt D2' r t->Sat w' (WX c s v u bi isp di {d with A:=A',D2:=D2'} R)->K r w'):F266 (some di) b K w:=by
 unfold F266
 have hrd:=hsrc w _ (h.take (hk _).choose_spec)
 obtain⟨a,n,cc⟩:=b
 cases a with
 |none=>exact ifNone (α:=Addr) (k d.A _ d.D2 _ hA (Hp.le_refl _) ⟨hrd,rfl⟩ h.near)
 |some a=>
  have h':=h
  unfold WX MSU MSL hp MSR UIL DL at h
  refine ifSome (α:=Addr) ⟨_,rfl,Ld1 h ⟨_,rfl,Ld1 h ⟨_,rfl,Ld1 h ?_⟩⟩⟩
  have hn:t.size=n:=hrd.1
  have h3:Sat w (Own d.D2::Spr d.A::MSU c s v u (BI c bi isp::DR v di bi d R)):=(h'.mv 18).mv 18
  refine call267 (a1:=⟨d.A.a,d.A.n,d.A.c⟩) (src2:=⟨some a,n,cc⟩) (spec267 (s:=t) (kc:=kc) (D2:=d.D2) hA (by dsimp only;omega) hn (hk _).choose_spec hsrc h3.near fun A' r D2' w a1 a2 a3 h=>?_)
  unfold MSU MSL hp MSR UIL DR at h
  refine⟨LdAt1 h,_,rfl,St1 h rfl fun w h=>?_⟩
  exact k A' r D2' w a1 a2 a3 ((h.pt 18).pt 18)
theorem MSU.takeD {c:MC}{s:MSt}{v:UC}{u:UV}(L0:List Chunk): ∃R',Take (MSU c s v u L0) (Own c.D) R':=⟨_,.there .k2⟩
theorem MSU.takeB {c:MC}{s:MSt}{v:UC}{u:UV}(L0:List Chunk): ∃R',Take (MSU c s v u L0) (Buf 1 s.buf (bytesOf s.bb)) R':=⟨_,.there .k7⟩
theorem rdBuf1 {w}{b:Sl}{t:ByteArray}{L}(h:Sat w (Buf 1 b (bytesOf t)::L)):RdB w b.a b.n t:=by
 obtain⟨g,hg,hh,_⟩:=h
 unfold Buf at hg
 cases ha:b.a with
 |none=>
  rw[ha]at hg
  have h1:=congrArg List.length hg.2.2.1
  rw[bytesOf_length]at h1
  exact ByteArray.ext (Array.eq_empty_of_size_eq_zero h1)
 |some a=>
  rw[ha]at hg
  obtain⟨h1,sp,h2,h3⟩:=hg
  rw[bytesOf_length]at h1
  exact⟨by omega,RdL.left (ys:=sp) fun j v e=>(hh _ _ (h3.1 j v e)).1⟩
theorem save {c:MC}{s:MSt}{v:UC}{u:UV}{bi di:Addr}{isp:Option Addr}{d:DSt}{R}{b:Sl}{t:ByteArray}{w}{K:Sl->WP}(hA:d.A.c<=2^41)(ht:t.size<2^40)(hb:BytesAt c.D b t\/(b=s.buf/\t=s.bb))
  (h:Sat w (WX c s v u bi isp di d R)) (k: ∀A' r D2' w',A'.c<=2^41->d.D2.le D2'->BytesAt D2' r t->Sat w' (WX c s v u bi isp di {d with A:=A',D2:=D2'} R)->K r w'):F266 (some di) b K w:=by
 rcases hb with hb|⟨rfl,rfl⟩
 ·exact spec266 hA ht MSU.takeD (fun w L h=>h.rdB .here hb) h k
 ·exact spec266 hA ht MSU.takeB (fun w L h=>rdBuf1 h) h k
structure DOk (d:DSt)(a b:ByteArray)(svs:List (ByteArray×ByteArray)):Prop where
 A:d.A.c<=2^41
 cs:BytesAt d.D2 d.cs a\/(d.cs=d.kb/\a=d.kbb)
 ce:BytesAt d.D2 d.ce b\/(d.ce=d.kb/\b=d.kbb)
 ck:d.ck=d.KB
 kn:d.KB.n=d.ks.length
 sv:SVs d.D2 d.ks svs
 ord:d.ord=1
theorem vis_small {c:MC}{v:UC}(cx:CtxOK c v){a:ByteArray}{svs:List (ByteArray×ByteArray)}(h:IsC v.sn (keysAt c a) svs): ∀p∈svs,p.1.size<2^40/\p.2.size<2^40:=fun⟨x,y⟩ hp=>by
 obtain⟨m,hm,_,_,rfl,rfl,_⟩:=(h.mem x y).1 hp
 unfold keysAt at hm
 simp only[List.mem_flatMap,List.mem_range]at hm
 obtain⟨l,hl,hm⟩:=hm
 cases e:covs (c.S l).spans a with
 |none=>rw[e]at hm;simp at hm
 |some sp=>
  rw[e]at hm
  obtain⟨j,hj,_⟩:=covs_some e
  exact cx.kz l hl sp (List.mem_of_getElem? hj) m hm
theorem IsB.small {c:MC}(lo:LevsOK c){a:ByteArray}(h:IsB c a):a.size<2^40:=by
 obtain⟨l,hl,p,hp,rfl⟩:=h
 exact bkey_sz (lo l hl) p
theorem spec262 {c:MC}{s:MSt}{v:UC}{u:UV}{bi di:Addr}{isp:Option Addr}{d:DSt}{R}{a b:ByteArray}{sets:List KC}{svs:List (ByteArray×ByteArray)}{w}{K:Unit->WP}(cx:CtxOK c v)(hA:d.A.c<=2^41)(hisp:d.isp=some (c.m.add 4))
  (fr:Frag c v.sn s a b sets) (hsv:SVs c.D sets svs) (hc:IsC v.sn (keysAt c a) svs) (hlen:sets.length<2^32) (h:Sat w (WX c s v u bi isp di d R))
  (k: ∀d' w',DOk d' a b svs->BytesAt d'.D2 d'.cs a->BytesAt d'.D2 d'.ce b->d'.isp=d.isp->d'.ipos=d.ipos->Sat w' (WX c s v u bi isp di d' R)->K () w'):F262 (some di) K w:=by
 obtain⟨start,end_,s0,s1,s2,s3,dir,keys,kn,kcs,buf,bb,rev,N,f,pos⟩:=s
 obtain⟨st,en,e0,e1,e2,e3,e4,e5,lt,ba,bbd,cv,vi⟩:=fr
 dsimp only at e0 e1 e2 e3 e4 e5
 subst e0 e1 e2 e3 e4 e5
 obtain⟨isp',ipos,cs,ce,ck,ord,A,KB,kb,D2,ks,kbb⟩:=d
 dsimp only at hisp hA
 subst hisp
 have hvz:=vis_small cx hc
 have ha:=ba.small cx.lo
 have hb:=bbd.small cx.lo
 unfold F262
 have h':=h
 unfold WX MSU MSL hp MSR UIL DL at h
 refine⟨_,rfl,Ld1 h ⟨_,rfl,Ld1 h ?_⟩⟩
 refine call194 (a1:=⟨A.a,A.n,A.c⟩) ?_
 unfold F194
 refine⟨⟨by omega,by dsimp only;omega⟩,?_⟩
 refine⟨_,rfl,Ld1 h ⟨_,rfl,Ld1 h ⟨_,rfl,Ld1 h ⟨⟨by omega,by dsimp only;omega⟩,_,rfl,St1 h rfl fun w h=>?_⟩⟩⟩⟩
 refine⟨_,rfl,Ld1 h ⟨_,rfl,Ld1 h ⟨_,rfl,Ld1 h ⟨⟨by omega,by dsimp only;omega⟩,_,rfl,St1 h rfl fun w h=>?_⟩⟩⟩⟩
 have h1:=(bufTrunc (h.mv 19)).pt 19
 have h2:Sat w (WX c _ v u bi isp di ⟨some (c.m.add 4),ipos,cs,ce,ck,ord,A,⟨KB.a,0,KB.c⟩,⟨kb.a,0,kb.c⟩,D2,[],.empty⟩ R):=(bufTrunc (h1.mv 20)).pt 20
 clear h h1 h'
 have h:=h2
 unfold WX MSU MSL hp MSR UIL DL at h
 refine⟨_,rfl,Ld1 h (ifSome (α:=Addr) ⟨_,rfl,Ld1 h ⟨_,rfl,Ld1 h ⟨_,rfl,Ld1 h ⟨_,rfl,Ld1 h ⟨_,rfl,Ld1 h ⟨_,rfl,Ld1 h ?_⟩⟩⟩⟩⟩⟩)⟩
 refine call266 (b2:=⟨s0.a,s0.n,s0.c⟩) (save (t:=a) hA ha st.2 h2.near fun A1 r1 D3 w a1 a2 a3 h2=>?_)
 clear h
 have h:=h2
 unfold WX MSU MSL hp MSR UIL DL at h
 refine⟨LdAt1 h,LdAt1 h,LdAt1 h,LdAt1 h,?_⟩
 refine call266 (b2:=⟨s1.a,s1.n,s1.c⟩) (save (t:=b) a1 hb en.2 h2.near fun A2 r2 D4 w b1 b2 b3 h2=>?_)
 clear h
 have h:=h2
 unfold WX MSU MSL hp MSR UIL DL at h
 refine⟨LdAt1 h,LdAt1 h,_,rfl,StL_of (St1 h rfl fun w h=>St1 h rfl fun w h=>St1 h rfl fun w h=>St1 h rfl fun w h=>?_)⟩
 refine⟨_,rfl,Ld1 h ⟨_,rfl,Ld1 h ?_⟩⟩
 have hsl:=hsv.len
 refine⟨fun m (i:Int) w=> ∃(j:Nat) (A KB:Sl) (D5:Hp) (ks:List KC),i=j/\j<=sets.length/\m=sets.length-j/\A.c<=2^41/\D4.le D5/\SVs D5 ks (svs.take j)/\ks.length=j/\KB.n=j/\
  Sat w (WX c ⟨s0,s1,s0,s1,⟨keys.a,sets.length,keys.c⟩,1,dir,keys,sets.length,sets.flatMap kcells,buf,bb,rev,N,f,pos⟩ v u bi isp di ⟨some (c.m.add 4),ipos,r1,r2,⟨none,0,0⟩,1,A,KB,⟨kb.a,0,kb.c⟩,D5,ks,.empty⟩ R),⟨_,0,A2,⟨KB.a,0,KB.c⟩,D4,[],rfl,Nat.zero_le _,rfl,b1,Hp.le_refl _,trivial,rfl,rfl,h⟩,?_⟩
 clear h h2
 rintro m i w ⟨j,A,KB,D5,ks,rfl,hj,hm,hA5,hD5,hks,hkl,hKB,h2⟩
 have h:=h2
 unfold WX MSU MSL hp MSR UIL DL at h
 refine ifd (fun hlt=>?_) (fun hge=>?_)
 ·have hjl:j<sets.length:=by dsimp only at hlt;omega
  have hjs:j<svs.length:=by omega
  have ew:IntKind.i64.wrap ((j:Int)+1)=((j+1:Nat):Int):=w1 om
  rw[ew,Int.toNat_natCast]
  obtain⟨e,he,hr⟩:=bufRow (ks:=sets) (b:=⟨keys.a,sets.length,keys.c⟩) (h2.near (w':=w.drew)) .k7 hjl
  dsimp only at he
  have hz:=hvz svs[j] (List.getElem_mem hjs)
  obtain⟨hs1,hs2⟩:=hsv.get j hjl hjs
  refine⟨_,rfl,Ld1 h ⟨_,rfl,Ld1 h ⟨_,rfl,Ld1 h ⟨_,rfl,Ld1 h ⟨_,rfl,Ld1 h ⟨⟨by omega,hlt⟩,e,he,LdC (hr 0 _ rfl) ?_⟩⟩⟩⟩⟩⟩
  refine⟨_,rfl,Ld1 h ⟨_,rfl,Ld1 h ⟨⟨by omega,hlt⟩,e,he,LdC (hr 1 _ rfl) ?_⟩⟩⟩
  refine⟨_,rfl,Ld1 h ⟨_,rfl,Ld1 h ⟨⟨by omega,hlt⟩,e,he,LdC (hr 2 _ rfl) ?_⟩⟩⟩
  refine call266 (b2:=sets[j].2.1) (save (t:=svs[j].1) hA5 hz.1 (.inl hs1) h2.near fun A6 q1 D6 w c1 c2 c3 h2=>?_)
  clear h
  have h:=h2
  unfold WX MSU MSL hp MSR UIL DL at h
  have hr2:RdL w (e.add (j*3)) (kcells sets[j]):=by
   obtain⟨e',he',hr'⟩:=bufRow (ks:=sets) (b:=⟨keys.a,sets.length,keys.c⟩) h2 .k7 hjl
   dsimp only at he'
   rw[he]at he'
   injection he' with he'
   rw[he'];exact hr'
  refine⟨hr2 2 _ rfl,LdAt1 h,LdAt1 h,hr2 0 _ rfl,LdAt1 h,LdAt1 h,LdAt1 h,LdAt1 h,LdAt1 h,?_⟩
  refine call266 (b2:=sets[j].2.2) (save (t:=svs[j].2) c1 hz.2 (.inl hs2) h2 fun A7 q2 D7 w d1 d2 d3 h2=>?_)
  clear h hr2
  have h:=h2
  unfold WX MSU MSL hp MSR UIL DL at h
  have hr2:RdL w (e.add (j*3)) (kcells sets[j]):=by
   obtain⟨e',he',hr'⟩:=bufRow (ks:=sets) (b:=⟨keys.a,sets.length,keys.c⟩) h2 .k7 hjl
   dsimp only at he'
   rw[he]at he'
   injection he' with he'
   rw[he'];exact hr'
  refine⟨hr2 0 _ rfl,LdAt1 h,LdAt1 h,LdAt1 h,LdAt1 h,LdAt1 h,?_⟩
  refine NewS_run h fun p w h=>⟨LdAt1 h,LdAt1 h,LdAt1 h,?_⟩
  refine App1 (k:=3) rfl h .k20 .here rfl (kcells_one (sets[j].1,q1,q2)) ?_ (by dsimp only;omega) fun r w er ea h=>?_
  ·show(2*(KB.n+1)+1024)*56<=_
   omega
  replace h:=h.t1.tail
  refine⟨LdAt1 h,_,rfl,St1 h rfl fun w h=>?_⟩
  refine⟨_,?_,j+1,A7,r,D7,ks++[(sets[j].1,q1,q2)],rfl,hjl,rfl,d1,(hD5.trans c2).trans d2,?_,by simp[hkl],by dsimp only at er;omega,?_⟩
  ·omega
  ·have e1:svs.take (j+1)=svs.take j++[svs[j]]:=by rw[List.take_add_one,List.getElem?_eq_getElem hjs];rfl
   rw[e1]
   exact(hks.mono (c2.trans d2)).app ⟨⟨c3.mono d2,d3⟩,trivial⟩
  ·have e1:(ks++[(sets[j].1,q1,q2)]).flatMap kcells=ks.flatMap kcells++kcells (sets[j].1,q1,q2):=by simp[List.flatMap_append]
   unfold WX MSU MSL hp MSR UIL DL
   rw[e1]
   exact h.pt 19
 ·have:j=sets.length:=by dsimp only at hge;omega
  subst this
  refine⟨_,rfl,Ld1 h ⟨_,rfl,Ld1 h ⟨_,rfl,St1 h rfl fun w h=>?_⟩⟩⟩
  refine k ⟨some (c.m.add 4),ipos,r1,r2,KB,1,A,KB,⟨kb.a,0,kb.c⟩,D5,ks,.empty⟩ w ⟨hA5,.inl ((a3.mono b2).mono hD5),.inl (b3.mono hD5),rfl,by dsimp only;omega,?_,rfl⟩ ((a3.mono b2).mono hD5) (b3.mono hD5) rfl rfl h
  rwa[hsl,List.take_length]at hks
theorem m214Should :MethAt Tryz.prog 214 "ShouldDefragment" 197:=by intro v w;kernel_rfl
theorem spec197 {c:MC}{s:MSt}{v:UC}{u:UV}{bi di:Addr}{isp:Option Addr}{d:DSt}{R}{a b x y:ByteArray}{sets:List KC}{svs svs2:List (ByteArray×ByteArray)}{w}{K:Bool->WP}
  (fr:Frag c v.sn s a b sets) (hsv:SVs c.D sets svs) (hd:DOk d x y svs2) (hlen:sets.length<2^32) (h:Sat w (WX c s v u bi isp di d R))
  (k: ∀r w',(r=true↔svs=svs2/\sets.length≠0)->Sat w' (WX c s v u bi isp di d R)->K r w'):F197 (some v.ui) (.mk (.func 46) #[] #[]) (some (c.m.add 4)) (some (di.add 6)) K w:=by
 obtain⟨start,end_,s0,s1,s2,s3,dir,keys,kn,kcs,buf,bb,rev,N,f,pos⟩:=s
 obtain⟨st,en,e0,e1,e2,e3,e4,e5,lt,ba,bbd,cv,vi⟩:=fr
 dsimp only at e0 e1 e2 e3 e4 e5
 subst e0 e1 e2 e3 e4 e5
 obtain⟨isp',ipos,cs,ce,ck,ord,A,KB,kb,D2,ks,kbb⟩:=d
 obtain⟨d1,d2,d3,d4,d5,d6,d7⟩:=hd
 dsimp only at d1 d2 d3 d4 d5 d6 d7
 subst d4 d7
 have hl1:=hsv.len
 have hl2:=d6.len
 have h0:=h
 unfold F197
 refine⟨fun _ w=>Sat w (WX c ⟨s0,s1,s0,s1,⟨keys.a,sets.length,keys.c⟩,1,dir,keys,sets.length,sets.flatMap kcells,buf,bb,rev,N,f,pos⟩ v u bi isp di ⟨isp',ipos,cs,ce,ck,1,A,ck,kb,D2,ks,kbb⟩ R),?_,?_⟩
 rotate_left
 ·unfold WX MSU MSL hp MSR UIL DL at h
  exact⟨_,rfl,Ld1 h (ifb (fun hh=>by cases hh) fun _=>h0)⟩
 clear h h0
 intro _ w h'
 refine⟨fun _ w=>ks.length=sets.length/\sets.length≠0/\Sat w (WX c ⟨s0,s1,s0,s1,⟨keys.a,sets.length,keys.c⟩,1,dir,keys,sets.length,sets.flatMap kcells,buf,bb,rev,N,f,pos⟩ v u bi isp di ⟨isp',ipos,cs,ce,ck,1,A,ck,kb,D2,ks,kbb⟩ R),?_,?_⟩
 rotate_left
 ·have h:=h'
  unfold WX MSU MSL hp MSR UIL DL at h
  refine⟨_,rfl,Ld1 h ⟨_,rfl,Ld1 h ?_⟩⟩
  refine ifnef (fun e=>?_) (fun e=>?_)
  ·replace e:(sets.length:Int)≠ck.n:=e
   refine k false _ ?_ h'.near
   simp only[Bool.false_eq_true,false_iff]
   rintro⟨rfl,_⟩
   omega
  ·replace e:(sets.length:Int)=ck.n:=e
   refine⟨_,rfl,Ld1 h ?_⟩
   refine ife (fun hz=>?_) (fun hnz=>?_)
   ·replace hz:(sets.length:Int)=0:=hz
    refine k false _ ?_ h'.near
    simp only[Bool.false_eq_true,false_iff]
    rintro⟨_,h2⟩
    omega
   ·replace hnz: ¬(sets.length:Int)=0:=hnz
    exact⟨by omega,by omega,h'.near⟩
 clear h'
 rintro _ w ⟨hlk,hnz,h'⟩
 refine⟨fun _ w=>Sat w (WX c ⟨s0,s1,s0,s1,⟨keys.a,sets.length,keys.c⟩,1,dir,keys,sets.length,sets.flatMap kcells,buf,bb,rev,N,f,pos⟩ v u bi isp di ⟨isp',ipos,cs,ce,ck,1,A,ck,kb,D2,ks,kbb⟩ R),?_,?_⟩
 rotate_left
 ·have h:=h'
  unfold WX MSU MSL hp MSR UIL DL at h
  refine⟨_,rfl,Ld1 h (ifnef (fun hh=>absurd rfl hh) fun _=>⟨_,rfl,Ld1 h (ifne (fun hh=>absurd rfl hh) fun _=>h')⟩)⟩
 clear h'
 intro _ w h'
 have h:=h'
 unfold WX MSU MSL hp MSR UIL DL at h
 refine⟨_,rfl,Ld1 h ?_⟩
 refine⟨fun m (z:Bool×Int) w=> ∃j:Nat,z=(true,(j:Int))/\j<=sets.length/\m=sets.length-j/\(∀i,i<j->svs[i]? =svs2[i]?)/\Sat w (WX c ⟨s0,s1,s0,s1,⟨keys.a,sets.length,keys.c⟩,1,dir,keys,sets.length,sets.flatMap kcells,buf,bb,rev,N,f,pos⟩ v u bi isp di ⟨isp',ipos,cs,ce,ck,1,A,ck,kb,D2,ks,kbb⟩ R),
  ⟨_,0,rfl,Nat.zero_le _,rfl,fun i hi=>by omega,h'⟩,?_⟩
 clear h h'
 rintro m z w ⟨j,rfl,hj,hm,heq,h'⟩
 dsimp only
 refine ifd (fun hlt=>?_) (fun hge=>?_)
 ·replace hlt:(j:Int)<sets.length:=hlt
  have hjl:j<sets.length:=by omega
  have hjs:j<svs.length:=by omega
  have hjk:j<ks.length:=by omega
  have hjs2:j<svs2.length:=by omega
  have ew:IntKind.i64.wrap ((j:Int)+1)=((j+1:Nat):Int):=w1 om
  rw[ew,Int.toNat_natCast]
  refine⟨fun _ w=>Sat w (WX c ⟨s0,s1,s0,s1,⟨keys.a,sets.length,keys.c⟩,1,dir,keys,sets.length,sets.flatMap kcells,buf,bb,rev,N,f,pos⟩ v u bi isp di ⟨isp',ipos,cs,ce,ck,1,A,ck,kb,D2,ks,kbb⟩ R),?_,h'⟩
  clear h'
  intro _ w h'
  have h:=h'
  unfold WX MSU MSL hp MSR UIL DL at h
  obtain⟨e,he,hr⟩:=bufRow (ks:=sets) (b:=⟨keys.a,sets.length,keys.c⟩) h' .k7 hjl
  obtain⟨e2,he2,hr2⟩:=bufRow (ks:=ks) (b:=ck) h' .k19 hjk
  dsimp only at he
  have hrd:=Near.rdL (w1:=w.drew) hr
  have hrd2:=Near.rdL (w1:=w.drew) hr2
  obtain⟨g1,g2⟩:=hsv.get j hjl hjs
  obtain⟨g3,g4⟩:=d6.get j hjk hjs2
  have rd1: ∀{w'} {x:Sl} {t:ByteArray},Near w w'->BytesAt c.D x t->RdB w' x.a x.n t:=fun {w'} {x} {t} nr hb=>by
   have:=nr
   exact(h'.near (w':=w')).rdB .k3 hb
  have rd2: ∀{w'} {x:Sl} {t:ByteArray},Near w w'->BytesAt D2 x t->RdB w' x.a x.n t:=fun {w'} {x} {t} nr hb=>by
   have:=nr
   exact(h'.near (w':=w')).rdB .k17 hb
  refine⟨_,rfl,Ld1 h ?_⟩
  refine⟨⟨by omega,hlt⟩,e,he,LdC (hrd 1 _ rfl) ⟨_,rfl,Ld1 h ?_⟩⟩
  refine⟨⟨by omega,show(j:Int)<ck.n by omega⟩,e2,he2,LdC (hrd2 1 _ rfl) ?_⟩
  refine callEq (a:=sets[j].2.1) (b:=ks[j].2.1) (rd1 inferInstance g1) (rd2 inferInstance g3) ?_
  by_cases es:(svs[j]).1=(svs2[j]).1
  ·rw[if_neg (by simp[es])]
   refine⟨_,rfl,Ld1 h ?_⟩
   refine⟨⟨by omega,hlt⟩,e,he,LdC (hrd 2 _ rfl) ⟨_,rfl,Ld1 h ?_⟩⟩
   refine⟨⟨by omega,show(j:Int)<ck.n by omega⟩,e2,he2,LdC (hrd2 2 _ rfl) ?_⟩
   refine call46 (a1:=sets[j].2.2) (b2:=ks[j].2.2) ⟨_,rd1 inferInstance g2,_,rd2 inferInstance g4,?_⟩
   rw[toList_beq]
   refine ifn (fun ev=>?_) (fun ev=>?_)
   rotate_left
   ·replace ev:=of_decide_eq_true ev
    refine⟨sets.length-(j+1),by omega,j+1,rfl,hjl,rfl,fun i hi=>?_,h'.near⟩
    by_cases e3:i=j
    ·subst e3
     rw[List.getElem?_eq_getElem hjs,List.getElem?_eq_getElem hjs2]
     exact congrArg some (Prod.ext es ev)
    ·exact heq i om
   ·replace ev:=of_decide_eq_false ev
    refine k false _ ?_ h'.near
    simp only[Bool.false_eq_true,false_iff]
    rintro⟨rfl,_⟩
    exact ev rfl
  ·rw[if_pos (by simp[es])]
   refine k false _ ?_ h'.near
   simp only[Bool.false_eq_true,false_iff]
   rintro⟨rfl,_⟩
   exact es rfl
 ·replace hge: ¬(j:Int)<sets.length:=hge
  have:j=sets.length:=by omega
  subst this
  refine k true _ ⟨fun _=>⟨List.ext_getElem? fun i=>?_,hnz⟩,fun _=>rfl⟩ h'
  by_cases hi:i<sets.length
  ·exact heq i hi
  ·rw[List.getElem?_eq_none om,List.getElem?_eq_none om]
theorem spec134s {c:MC}{s:MSt}{R}{a b:ByteArray}{sn:Int}{sets:List KC}{w}{K:Bool->WP}(fr:Frag c sn s a b sets)(h:Sat w (MSL c s R))(k:K (decide (sets.length=0)) w):F134 (some (c.m.add 4)) K w:=by
 unfold F134
 unfold MSL hp MSR at h
 refine ifSomeF ⟨_,rfl,Ld1 h ?_⟩
 have e:((s.s2.n:Int)==0)=decide (sets.length=0):=by
  rw[fr.s2]
  by_cases e:sets.length=0
  ·simp[e]
  ·simp[e]
 rw[e];exact k
theorem spec265 {c:MC}{s:MSt}{v:UC}{u:UV}{bi di:Addr}{isp:Option Addr}{d:DSt}{R}{a b x y:ByteArray}{sets:List KC}{svs svs2:List (ByteArray×ByteArray)}{w}{K:Bool->WP}
  (fr:Frag c v.sn s a b sets) (hsv:SVs c.D sets svs) (hd:DOk d x y svs2) (hisp:d.isp=some (c.m.add 4)) (hlen:sets.length<2^32) (h:Sat w (WX c s v u bi isp di d R))
  (k: ∀r w',(r=true↔svs=svs2/\svs≠ [])->Sat w' (WX c s v u bi isp di d R)->K r w'):F265 (some di) (some (c.m.add 4)) (some (di.add 6)) K w:=by
 unfold F265
 have hl1:=hsv.len
 have hl2:=hd.sv.len
 have nz:svs≠ []↔sets.length≠0:=by rw[hl1];cases svs<;>simp
 refine call134 (spec134s fr (h.near (w':=w.drew)) ?_)
 by_cases e:sets.length=0
 ·rw[if_neg (by simp[e])]
  exact k false _ (by simp only[Bool.false_eq_true,false_iff];rintro⟨_,h2⟩;exact nz.1 h2 e) h.near
 rw[if_pos (by simp[e])]
 have h':=h
 unfold WX MSU MSL hp MSR UIL DL at h
 refine call134 ?_
 unfold F134
 refine ifSomeF ⟨_,rfl,Ld1 h ?_⟩
 refine ifn (fun e2=>?_) (fun e2=>?_)
 rotate_left
 ·replace e2:((d.ck.n:Int)==0)=true:=e2
  have e2:d.ck.n=0:=by simpa using e2
  refine k false _ ?_ h'.near
  simp only[Bool.false_eq_true,false_iff]
  rintro⟨rfl,h2⟩
  have:=hd.kn
  rw[<-hd.ck]at this
  omega
 refine⟨_,rfl,Ld1 h ?_⟩
 refine⟨_,rfl,Ld1 h ?_⟩
 refine⟨_,rfl,Ld1 h ?_⟩
 refine⟨_,rfl,trivial,?_⟩
 rw[hisp]
 refine CallI_run m214Should (call197 (equal2:=.mk (.func 46) #[] #[]) (spec197 fr hsv hd hlen h'.near fun r w hr h=>k r w ?_ h))
 rw[hr,nz]
end Go.Proofs.YtpkoddfamelnhaaGreatDoor
