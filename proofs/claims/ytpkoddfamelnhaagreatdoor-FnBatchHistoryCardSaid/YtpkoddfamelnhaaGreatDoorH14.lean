/- Part 14 of the proof of fnBatchHistory_card. Conditions: none. -/
import Derived.Test.YtpkoddfamelnhaaGreatDoorH12
import Derived.Test.YtpkoddfamelnhaaGreatDoorH13
set_option linter.unusedVariables false
set_option linter.unusedSimpArgs false
namespace Go.Proofs.YtpkoddfamelnhaaGreatDoor
open Go Go.Tr
set_option maxRecDepth 100000
theorem callLen64 {x:Int}{w}{K:Int->WP}(h0:0<=x)(h1:x<=18446744073709551615)(k:K (Lib.bitLen x.toNat) w):CallF Tryz.prog 156 [.int .u64 x] [.one (.int .i64)] K w:=by
 refine callF_of Tryz.func156 rfl rfl ?_
 refine(bits_Len64 x w h0 h1).mono ?_
 rintro e w' ⟨rfl,rfl⟩
 exact⟨_,rfl,k,Ext.refl _⟩
theorem bitLen_lt : ∀n:Nat,n<2^64->n<2^Lib.bitLen n:=by
 intro n
 induction n using Nat.strongRecOn with
 | _ n ih =>
  intro h
  by_cases e:n=0
  ·subst e;decide
  ·rw[Lib.bitLen_half n e h,Nat.pow_add]
   have:=ih (n/2) om om
   omega
theorem bitLen_le : ∀n:Nat,0<n->n<2^64->2^Lib.bitLen n<=2*n:=by
 intro n
 induction n using Nat.strongRecOn with
 | _ n ih =>
  intro h0 h
  rw[Lib.bitLen_half n om h,Nat.pow_add]
  by_cases e:n/2=0
  ·have h1:n=1:=by omega
   subst h1;decide
  ·have:=ih (n/2) om om om
   omega
end Go.Proofs.YtpkoddfamelnhaaGreatDoor
namespace Go.Tr
theorem SatU.rot {w}{c:Chunk}: ∀{L R} {U:Addr->Prop},SatU w U (c::(L++R))->SatU w U (L++c::R)
 | [],_,_,h=>h
 |d::L,R,U,h=>SatU.under (fun _ h=>SatU.rot h) U (SatU.swap h)
theorem SatU.unrot {w}{c:Chunk}: ∀{L R} {U:Addr->Prop},SatU w U (L++c::R)->SatU w U (c::(L++R))
 | [],_,_,h=>h
 |d::L,R,U,h=>SatU.swap (SatU.under (fun _ h=>SatU.unrot h) U h)
theorem Sat.rot {w}{c:Chunk}{L R}(h:Sat w (c::(L++R))):Sat w (L++c::R):=SatU.rot h
theorem Sat.unrot {w}{c:Chunk}{L R}(h:Sat w (L++c::R)):Sat w (c::(L++R)):=SatU.unrot h
theorem wu64_range (x:Int):0<=IntKind.u64.wrap x/\IntKind.u64.wrap x<18446744073709551616:=by
 have e:IntKind.u64.wrap x=x%18446744073709551616:=by
  simp only[IntKind.wrap,IntKind.bits,IntKind.signed,Bool.false_and,Bool.false_eq_true,if_false];rfl
 rw[e];omega
theorem and_le64 (x y:Int)(hy:0<=y)(hy':y<18446744073709551616):0<=IntKind.u64.wrap (BitVec.ofInt IntKind.u64.bits x&&&BitVec.ofInt IntKind.u64.bits y).toNat/\IntKind.u64.wrap (BitVec.ofInt IntKind.u64.bits x&&&BitVec.ofInt IntKind.u64.bits y).toNat<=y:=by
 have h1:(BitVec.ofInt IntKind.u64.bits x&&&BitVec.ofInt IntKind.u64.bits y).toNat<=(BitVec.ofInt IntKind.u64.bits y).toNat:=by
  rw[BitVec.toNat_and];exact Nat.and_le_right
 have h2:((BitVec.ofInt IntKind.u64.bits y).toNat:Int)=y:=by
  rw[BitVec.toNat_ofInt]
  show((y%18446744073709551616).toNat:Int)=y
  omega
 rw[wu64 om om]
 omega
end Go.Tr
namespace Go.Proofs.YtpkoddfamelnhaaGreatDoor
open Go Go.Tr
set_option maxRecDepth 100000
theorem spec131 {x:Int}{w}{K:Int->WP}(h0:0<=x)(h1:x<=18446744073709551615)(k:K (Lib.bitLen x.toNat) w):F131 x K w:=callLen64 h0 h1 k
theorem spec167 {n:Nat}{w}{K:Int->WP}(h0:0<n)(h1:n<2^60)(k: ∀m:Int,0<m->m<=2*n->K m w):F167 n K w:=by
 unfold F167
 have e1:IntKind.u64.wrap (n:Int)=n:=wu64 om om
 rw[e1]
 refine call131 (spec131 om om ?_)
 rw[Int.toNat_natCast]
 have hb:=bitLen_le n h0 om
 have hl:=bitLen_lt n om
 have hs:Lib.bitLen n<62:=by
  rcases Nat.lt_or_ge (Lib.bitLen n) 62 with h|h
  ·exact h
  ·have:=Nat.pow_le_pow_right (show 0<2 by omega) h;omega
 have e2:IntKind.u64.wrap (Lib.bitLen n:Int)=Lib.bitLen n:=wu64 om om
 rw[e2]
 refine⟨by omega,?_⟩
 have e3:min ((Lib.bitLen n:Int).toNat) IntKind.u64.bits=Lib.bitLen n:=by rw[Int.toNat_natCast];show min _ 64=_;omega
 rw[e3]
 have e4:(1:Int)*2^Lib.bitLen n=((2^Lib.bitLen n:Nat):Int):=by rw[Int.one_mul,Int.natCast_pow];rfl
 have hp:0<2^Lib.bitLen n:=Nat.two_pow_pos _
 rw[e4,wu64 om om]
 exact k _ om om
theorem spec168 {p:Addr}{x:Int}{L w}{K:Int->WP}(h:Sat w (Arr p [.int .u64 x]::L))(k: ∀y w',0<=y->y<18446744073709551616->Sat w' (Arr p [.int .u64 y]::L)->K y w'):F168 (some p) K w:=by
 unfold F168
 refine⟨_,rfl,Ld1 h ⟨_,rfl,Ld1 h ⟨by omega,_,rfl,St1 h rfl fun w h=>?_⟩⟩⟩
 refine⟨_,rfl,Ld1 h ⟨_,rfl,Ld1 h ⟨by omega,_,rfl,St1 h rfl fun w h=>?_⟩⟩⟩
 refine⟨_,rfl,Ld1 h ⟨_,rfl,Ld1 h ⟨by omega,_,rfl,St1 h rfl fun w h=>?_⟩⟩⟩
 refine⟨_,rfl,Ld1 h (k _ _ (wu64_range _).1 (wu64_range _).2 h)⟩
section
variable {α : Type} {I : SortI α}
theorem spec159 {d:Nat->α}{a b:Nat}{R w}{K:Unit->WP}(hs:Sat w (I.St d++R))(hab:a<=b)(hb:b<=I.n)
  (k: ∀d' w',SameI a b d d'->Sat w' (I.St d'++R)->K () w'):F159 I.v a b K w:=by
 have hn:=I.small
 unfold F159
 have e1:IntKind.i64.wrap ((b:Int)-(a:Int))=((b-a:Nat):Int):=by rw[wi64 om om];omega
 have e2:IntKind.i64.wrap (((b-a:Nat):Int).tdiv 4)=(((b-a)/4:Nat):Int):=by
  rw[Int.tdiv_eq_ediv_of_nonneg om,wi64 om om];omega
 have e3:IntKind.i64.wrap ((((b-a)/4:Nat):Int)*2)=(((b-a)/4*2:Nat):Int):=by rw[wi64 om om];omega
 have e4:IntKind.i64.wrap ((a:Int)+(((b-a)/4*2:Nat):Int))=((a+(b-a)/4*2:Nat):Int):=by rw[wi64 om om];omega
 have e5:IntKind.i64.wrap (((a+(b-a)/4*2:Nat):Int)+1)=((a+(b-a)/4*2+1:Nat):Int):=w1 om
 simp only[e1,e2,e3,e4,e5]
 refine ifd (fun hc=>?_) (fun hc=>k _ _ (SameI.refl _ _ _) hs)
 have e6:IntKind.i64.wrap (((a+(b-a)/4*2:Nat):Int)-1)=((a+(b-a)/4*2-1:Nat):Int):=n1 om om
 rw[e6]
 refine NewP_run hs fun p w hs=>St1 hs rfl fun w hs=>?_
 refine call167 (spec167 om om fun m hm0 hm1=>⟨by omega,?_⟩)
 refine⟨fun m (s:Int) w=> ∃(d':Nat->α) (i:Nat) (x:Int),s=i/\a<=i/\i<=a+(b-a)/4*2+2/\m=a+(b-a)/4*2+2-i/\SameI a b d d'/\Sat w (Arr p [.int .u64 x]::(I.St d'++R)),⟨_,d,a+(b-a)/4*2-1,_,rfl,by omega,by omega,rfl,SameI.refl _ _ _,hs⟩,?_⟩
 clear hs
 rintro m' s w ⟨d',i,x,rfl,hi,hi',hm,h1,hs⟩
 refine⟨by omega,ifd (fun hc'=>?_) (fun hc'=>?_)⟩
 ·refine call168 (spec168 hs fun y w y0 y1 hs=>?_)
  have em:IntKind.u64.wrap (m-1)=m-1:=wu64 om om
  rw[em]
  have hand:=and_le64 y (m-1) om om
  generalize IntKind.u64.wrap (BitVec.ofInt IntKind.u64.bits y&&&BitVec.ofInt IntKind.u64.bits (m-1)).toNat=o at hand
  have eo:IntKind.i64.wrap o=o:=wi64 om om
  rw[eo]
  have fin: ∀(q:Nat),q<b-a-> ∀w,Sat w (I.St (swp d' i (a+q))++Arr p [.int .u64 y]::R)-> ∃m1,m1<m'/\ ∃(d':Nat->α) (i':Nat) (x:Int),IntKind.i64.wrap ((i:Int)+1)=i'/\a<=i'/\i'<=a+(b-a)/4*2+2/\m1=a+(b-a)/4*2+2-i'/\SameI a b d d'/\Sat w (Arr p [.int .u64 x]::(I.St d'++R)):=
   fun q hq w hs=>⟨_,by omega,_,i+1,y,w1 om,by omega,by omega,rfl,h1.trans (SameI.swap d' om om om om),hs.unrot⟩
  refine ifd (fun ho=>?_) (fun ho=>?_)
  ·have e7:IntKind.i64.wrap (o-((b-a:Nat):Int))=o-((b-a:Nat):Int):=wi64 om om
   have e8:IntKind.i64.wrap ((a:Int)+(o-((b-a:Nat):Int)))=((a+(o-((b-a:Nat):Int)).toNat:Nat):Int):=by rw[wi64 om om];omega
   rw[e7,e8]
   refine I.swap d' _ _ _ w _ hs.rot om om om om fun w hs=>?_
   rw[Int.toNat_natCast,Int.toNat_natCast]at hs
   exact fin _ om w hs
  ·have e8:IntKind.i64.wrap ((a:Int)+o)=((a+o.toNat:Nat):Int):=by rw[wi64 om om];omega
   rw[e8]
   refine I.swap d' _ _ _ w _ hs.rot om om om om fun w hs=>?_
   rw[Int.toNat_natCast,Int.toNat_natCast]at hs
   exact fin _ om w hs
 ·exact k _ _ h1 hs.tail
theorem spec171 {d:Nat->α}{x y:Nat}{p:Addr}{s:Int}{R w}{K:(Int×Int)->WP}(hs:Sat w (Arr p [.int .i64 s]::(I.St d++R)))(hx:x<I.n)(hy:y<I.n)
  (k: ∀(x' y':Nat) s' w',(x'=x/\y'=y\/x'=y/\y'=x)->Sat w' (Arr p [.int .i64 s']::(I.St d++R))->K (x',y') w'):F171 I.v x y (some p) K w:=by
 have hn:=I.small
 unfold F171
 refine I.less d _ _ _ w _ hs.rot om om om om fun w hs=>?_
 replace hs:=hs.unrot
 refine ifb (fun hl=>?_) (fun hl=>?_)
 ·exact⟨_,rfl,Ld1 hs ⟨_,rfl,St1 hs rfl fun w hs=>k y x _ _ (.inr ⟨rfl,rfl⟩) hs⟩⟩
 ·exact k x y _ _ (.inl ⟨rfl,rfl⟩) hs
theorem spec170 {d:Nat->α}{x y z:Nat}{p:Addr}{s:Int}{R w}{K:Int->WP}(hs:Sat w (Arr p [.int .i64 s]::(I.St d++R)))(hx:x<I.n)(hy:y<I.n)(hz:z<I.n)
  (k: ∀(r:Nat) s' w',(r=x\/r=y\/r=z)->Sat w' (Arr p [.int .i64 s']::(I.St d++R))->K r w'):F170 I.v x y z (some p) K w:=by
 unfold F170
 refine call171 (spec171 hs hx hy fun x1 y1 s1 w h1 hs=>?_)
 refine call171 (spec171 hs om hz fun x2 y2 s2 w h2 hs=>?_)
 refine call171 (spec171 hs om om fun x3 y3 s3 w h3 hs=>?_)
 exact k y3 _ _ om hs
theorem spec169 {d:Nat->α}{x:Nat}{p:Addr}{s:Int}{R w}{K:Int->WP}(hs:Sat w (Arr p [.int .i64 s]::(I.St d++R)))(hx0:0<x)(hx:x+1<I.n)
  (k: ∀(r:Nat) s' w',x-1<=r->r<=x+1->Sat w' (Arr p [.int .i64 s']::(I.St d++R))->K r w'):F169 I.v x (some p) K w:=by
 have hn:=I.small
 unfold F169
 rw[n1 hx0 om,w1 om]
 exact call170 (spec170 hs om om om fun r s' w h hs=>k r s' w om om hs)
theorem spec160 {d:Nat->α}{a b:Nat}{R w}{K:(Int×Int)->WP}(hs:Sat w (I.St d++R))(hab:a<b)(hb:b<=I.n)
  (k: ∀(r:Nat) (h:Int) w',a<=r->r<b->Sat w' (I.St d++R)->K (r,h) w'):F160 I.v a b K w:=by
 have hn:=I.small
 unfold F160
 have e1:IntKind.i64.wrap ((b:Int)-(a:Int))=((b-a:Nat):Int):=by rw[wi64 om om];omega
 have e2:IntKind.i64.wrap (((b-a:Nat):Int).tdiv 4)=(((b-a)/4:Nat):Int):=by
  rw[Int.tdiv_eq_ediv_of_nonneg om,wi64 om om];omega
 have e3: ∀c:Nat,c<=3->IntKind.i64.wrap ((((b-a)/4:Nat):Int)*(c:Int))=(((b-a)/4*c:Nat):Int):=fun c hc=>by
  have:c=0\/c=1\/c=2\/c=3:=by omega
  rcases this with rfl|rfl|rfl|rfl<;>rw[wi64 om om]<;>omega
 have e31:IntKind.i64.wrap ((((b-a)/4:Nat):Int)*1)=(((b-a)/4*1:Nat):Int):=e3 1 om
 have e32:IntKind.i64.wrap ((((b-a)/4:Nat):Int)*2)=(((b-a)/4*2:Nat):Int):=e3 2 om
 have e33:IntKind.i64.wrap ((((b-a)/4:Nat):Int)*3)=(((b-a)/4*3:Nat):Int):=e3 3 om
 have e4: ∀q:Nat,q<=b->IntKind.i64.wrap ((a:Int)+(q:Int))=((a+q:Nat):Int):=fun q hq=>by rw[wi64 om om];omega
 have e41:=e4 ((b-a)/4*1) om
 have e42:=e4 ((b-a)/4*2) om
 have e43:=e4 ((b-a)/4*3) om
 simp only[e1,e2,e31,e32,e33,e41,e42,e43]
 refine NewP_run hs fun p w hs=>⟨by omega,by omega,by omega,?_⟩
 refine⟨fun(s:Int) w=> ∃(r:Nat) (q:Int),s=r/\a<=r/\r<b/\Sat w (Arr p [.int .i64 q]::(I.St d++R)),?_,?_⟩
 ·rintro s w ⟨r,q,rfl,h0,h1,hs⟩
  refine Ld1 hs ?_
  refine ife (fun _=>k r _ _ h0 h1 hs.tail) (fun _=>ife (fun _=>k r _ _ h0 h1 hs.tail) (fun _=>k r _ _ h0 h1 hs.tail))
 ·refine ifd (fun hc=>ifd (fun hc'=>?_) (fun hc'=>?_)) (fun hc=>?_)
  ·refine call169 (spec169 hs om om fun r1 s1 w l1 u1 hs=>?_)
   refine call169 (spec169 hs om om fun r2 s2 w l2 u2 hs=>?_)
   refine call169 (spec169 hs om om fun r3 s3 w l3 u3 hs=>?_)
   refine call170 (spec170 hs om om om fun r4 s4 w l4 hs=>?_)
   exact⟨r4,_,rfl,by omega,by omega,hs⟩
  ·refine call170 (spec170 hs om om om fun r4 s4 w l4 hs=>?_)
   exact⟨r4,_,rfl,by omega,by omega,hs⟩
  ·exact⟨_,_,rfl,by omega,by omega,hs⟩
end
section
variable {α : Type} {I : SortI α}
theorem spec163 (hw:SWO I.lt){d:Nat->α}{a b p:Nat}{R w}{K:Int->WP}(hs:Sat w (I.St d++R))(hap:a<=p)(hpb:p<b)(hb:b<=I.n)
  (hmin: ∀i,a<=i->i<b->I.lt (d i) (d p)=false)
  (k: ∀(m:Nat) d' w',a<m->m<=b->SameI a b d d'->(∀x,a<=x->x<m->I.lt (d p) (d' x)=false)->(∀x,m<=x->x<b->I.lt (d p) (d' x)=true)->Sat w' (I.St d'++R)->K m w'):F163 I.v a b p K w:=by
 have hn:=I.small
 unfold F163
 refine I.swap d _ _ R w _ hs om om om om fun w hs=>?_
 rw[Int.toNat_natCast,Int.toNat_natCast]at hs
 rw[w1 om,n1 om om]
 refine⟨fun m (s:Int×Int) w=> ∃(d':Nat->α) (i j:Nat),s=((i:Int),(j:Int))/\a<i/\i<=j+1/\j<b/\m=j+1-i/\SameI a b d d'/\d' a=d p/\(∀x,a<=x->x<i->I.lt (d p) (d' x)=false)/\(∀x,j<x->x<b->I.lt (d p) (d' x)=true)/\Sat w (I.St d'++R),
  ⟨_,_,a+1,b-1,rfl,by omega,by omega,by omega,rfl,SameI.swap d om om om om,swp_l _ _ _,fun x h0 h1=>?_,fun x h0 h1=>by omega,hs⟩,?_⟩
 ·have:x=a:=by omega
  subst this;rw[swp_l];exact hw.irrefl _
 clear hs
 rintro m s w ⟨d',i0,j0,rfl,hi0,hij0,hj0,hm,hsm,hda,hlo0,hhi0,hs⟩
 refine⟨fun(s:Int) w=> ∃i:Nat,s=i/\i0<=i/\i<=j0+1/\(∀x,a<=x->x<i->I.lt (d p) (d' x)=false)/\(i<=j0->I.lt (d p) (d' i)=true)/\Sat w (I.St d'++R),?_,?_⟩
 ·clear hs
  rintro s w ⟨i,rfl,hi,hij,hlo,hstop,hs⟩
  dsimp only
  refine⟨fun m' (s:Int) w=> ∃j:Nat,s=j/\i<=j+1/\j<=j0/\m'=j/\(∀x,j<x->x<b->I.lt (d p) (d' x)=true)/\Sat w (I.St d'++R),⟨_,j0,rfl,by omega,Nat.le_refl _,rfl,hhi0,hs⟩,?_⟩
  clear hs
  rintro m' s w ⟨j,rfl,hij',hjj,hm',hhi,hs⟩
  have fin1: ∀w,i=j+1->Sat w (I.St d'++R)->K i w:=fun w e hs=>k i d' w om om hsm hlo (fun x x0 x1=>hhi x om x1) hs
  refine ifd (fun hc=>?_) (fun hc=>?_)
  ·refine I.less d' _ _ R w _ hs om om om om fun w hs=>?_
   rw[Int.toNat_natCast,Int.toNat_natCast,hda]
   refine ifb (fun hl=>?_) (fun hl=>?_)
   ·rw[n1 om om]
    refine⟨j-1,by omega,j-1,rfl,by omega,by omega,rfl,fun x x0 x1=>?_,hs⟩
    by_cases e:x=j
    ·subst e;exact hl
    ·exact hhi x om x1
   ·refine ifd (fun hc'=>by omega) (fun hc'=>?_)
    have hne:i≠j:=fun e=>by subst e;have:=hstop om;rw[hl]at this;cases this
    refine I.swap d' _ _ R w _ hs om om om om fun w hs=>?_
    rw[Int.toNat_natCast,Int.toNat_natCast]at hs
    rw[w1 om,n1 om om]
    refine⟨j-1+1-(i+1),by omega,_,i+1,j-1,rfl,by omega,by omega,by omega,rfl,hsm.trans (SameI.swap d' om om om om),?_,fun x x0 x1=>?_,fun x x0 x1=>?_,hs⟩
    ·rw[swp_o _ om om];exact hda
    ·by_cases e:x=i
     ·subst e;rw[swp_l];exact hl
     ·rw[swp_o _ e om];exact hlo x x0 om
    ·by_cases e:x=j
     ·subst e;rw[swp_r];exact hstop om
     ·rw[swp_o _ om e];exact hhi x om x1
  ·exact ifd (fun _=>fin1 w om hs) (fun hc'=>by omega)
 ·dsimp only
  refine⟨fun m' (s:Int) w=> ∃i:Nat,s=i/\i0<=i/\i<=j0+1/\m'=j0+1-i/\(∀x,a<=x->x<i->I.lt (d p) (d' x)=false)/\Sat w (I.St d'++R),⟨_,i0,rfl,Nat.le_refl _,hij0,rfl,hlo0,hs⟩,?_⟩
  clear hs
  rintro m' s w ⟨i,rfl,hi,hij,hm',hlo,hs⟩
  refine ifd (fun hc=>?_) (fun hc=>?_)
  ·refine I.less d' _ _ R w _ hs om om om om fun w hs=>?_
   rw[Int.toNat_natCast,Int.toNat_natCast,hda]
   refine ifn (fun hl=>?_) (fun hl=>?_)
   ·rw[w1 om]
    refine⟨j0+1-(i+1),by omega,i+1,rfl,by omega,by omega,rfl,fun x x0 x1=>?_,hs⟩
    by_cases e:x=i
    ·subst e;exact hl
    ·exact hlo x x0 om
   ·exact⟨i,rfl,hi,hij,hlo,fun _=>hl,hs⟩
  ·exact⟨i,rfl,hi,hij,hlo,fun h=>by omega,hs⟩
theorem spec164 (hw : SWO I.lt) {d : Nat -> α} {a b p : Nat} {R w} {K : (Int × Bool) -> WP} (hs : Sat w (I.St d ++ R)) (hap : a <= p) (hpb : p < b) (hb : b <= I.n)
  (k: ∀(m:Nat) (q:Bool) d' w',a<=m->m<b->SameI a b d d'->d' m=d p->(∀x,a<=x->x<m->I.lt (d' x) (d p)=true)->(∀x,m<x->x<b->I.lt (d' x) (d p)=false)->Sat w' (I.St d'++R)->K (m,q) w'):F164 I.v a b p K w:=by
 have hn:=I.small
 unfold F164
 refine I.swap d _ _ R w _ hs om om om om fun w hs=>?_
 rw[Int.toNat_natCast,Int.toNat_natCast]at hs
 rw[w1 om,n1 om om]
 have hsm0:SameI a b d (swp d a p):=SameI.swap d om om om om
 have hda0:swp d a p a=d p:=swp_l _ _ _
 generalize swp d a p=d0 at hs hsm0 hda0
 have fin: ∀(d':Nat->α) (i j:Nat) (q:Bool),a<i->i=j+1->j<b->SameI a b d d'->d' a=d p->(∀x,a<x->x<i->I.lt (d' x) (d p)=true)->(∀x,j<x->x<b->I.lt (d' x) (d p)=false)-> ∀w,Sat w (I.St d'++R)->
   CallI Tryz.prog (IV.enc I.v) "Swap" [.int .i64 (j:Int),.int .i64 (a:Int)] [] (fun(_:Unit) w=>K ((j:Int),q) w) w:=by
  intro d' i j q hi e hj hsm hda hlo hhi w hs
  refine I.swap d' _ _ R w _ hs om om om om fun w hs=>?_
  rw[Int.toNat_natCast,Int.toNat_natCast]at hs
  refine k j q _ w om hj (hsm.trans (SameI.swap d' om om om om)) (by rw[swp_l];exact hda) (fun x x0 x1=>?_) (fun x x0 x1=>?_) hs
  ·by_cases ex:x=a
   ·subst ex;rw[swp_r];exact hlo j om om
   ·rw[swp_o _ om ex];exact hlo x om om
  ·rw[swp_o _ om om];exact hhi x x0 x1
 refine⟨fun(s:Int) w=> ∃i:Nat,s=i/\a<i/\i<=b/\(∀x,a<x->x<i->I.lt (d0 x) (d p)=true)/\(i<b->I.lt (d0 i) (d p)=false)/\Sat w (I.St d0++R),?_,?_⟩
 ·clear hs
  rintro s w ⟨i,rfl,hi,hib,hlo,hstop,hs⟩
  refine⟨fun(s:Int) w=> ∃j:Nat,s=j/\i<=j+1/\j<b/\(∀x,j<x->x<b->I.lt (d0 x) (d p)=false)/\(i<=j->I.lt (d0 j) (d p)=true)/\Sat w (I.St d0++R),?_,?_⟩
  ·clear hs
   rintro s w ⟨j,rfl,hij,hjb,hhi,hstop',hs⟩
   refine ifd (fun hc=>?_) (fun hc=>?_)
   ·exact fin d0 i j true hi om hjb hsm0 hda0 hlo hhi w hs
   ·have hne:i≠j:=fun e=>by subst e;have h1:=hstop om;have h2:=hstop' om;rw[h1]at h2;cases h2
    refine I.swap d0 _ _ R w _ hs om om om om fun w hs=>?_
    rw[Int.toNat_natCast,Int.toNat_natCast]at hs
    rw[w1 om,n1 om om]
    refine⟨fun m (s:Int×Int) w=> ∃(d':Nat->α) (i j:Nat),s=((i:Int),(j:Int))/\a<i/\i<=j+1/\j<b/\m=j+1-i/\SameI a b d d'/\d' a=d p/\(∀x,a<x->x<i->I.lt (d' x) (d p)=true)/\(∀x,j<x->x<b->I.lt (d' x) (d p)=false)/\Sat w (I.St d'++R),
     ⟨_,_,i+1,j-1,rfl,by omega,by omega,by omega,rfl,hsm0.trans (SameI.swap d0 om om om om),?_,fun x x0 x1=>?_,fun x x0 x1=>?_,hs⟩,?_⟩
    ·rw[swp_o _ om om];exact hda0
    ·by_cases e:x=i
     ·subst e;rw[swp_l];exact hstop' om
     ·rw[swp_o _ e om];exact hlo x x0 om
    ·by_cases e:x=j
     ·subst e;rw[swp_r];exact hstop om
     ·rw[swp_o _ om e];exact hhi x om x1
    clear hs hlo hstop hhi hstop' hne hc hij hjb hi hib hsm0 hda0
    rintro m s w ⟨d',i0,j0,rfl,hi0,hij0,hj0,hm,hsm,hda,hlo0,hhi0,hs⟩
    refine⟨fun(s:Int) w=> ∃i:Nat,s=i/\i0<=i/\i<=j0+1/\(∀x,a<x->x<i->I.lt (d' x) (d p)=true)/\(i<=j0->I.lt (d' i) (d p)=false)/\Sat w (I.St d'++R),?_,?_⟩
    ·clear hs
     rintro s w ⟨i,rfl,hi,hij,hlo,hstop,hs⟩
     dsimp only
     refine⟨fun m' (s:Int) w=> ∃j:Nat,s=j/\i<=j+1/\j<=j0/\m'=j/\(∀x,j<x->x<b->I.lt (d' x) (d p)=false)/\Sat w (I.St d'++R),⟨_,j0,rfl,by omega,Nat.le_refl _,rfl,hhi0,hs⟩,?_⟩
     clear hs
     rintro m' s w ⟨j,rfl,hij',hjj,hm',hhi,hs⟩
     refine ifd (fun hc=>?_) (fun hc=>?_)
     ·refine I.less d' _ _ R w _ hs om om om om fun w hs=>?_
      rw[Int.toNat_natCast,Int.toNat_natCast,hda]
      refine ifn (fun hl=>?_) (fun hl=>?_)
      ·rw[n1 om om]
       refine⟨j-1,by omega,j-1,rfl,by omega,by omega,rfl,fun x x0 x1=>?_,hs⟩
       by_cases e:x=j
       ·subst e;exact hl
       ·exact hhi x om x1
      ·refine ifd (fun hc'=>by omega) (fun hc'=>?_)
       have hne:i≠j:=fun e=>by subst e;have:=hstop om;rw[hl]at this;cases this
       refine I.swap d' _ _ R w _ hs om om om om fun w hs=>?_
       rw[Int.toNat_natCast,Int.toNat_natCast]at hs
       rw[w1 om,n1 om om]
       refine⟨j-1+1-(i+1),by omega,_,i+1,j-1,rfl,by omega,by omega,by omega,rfl,hsm.trans (SameI.swap d' om om om om),?_,fun x x0 x1=>?_,fun x x0 x1=>?_,hs⟩
       ·rw[swp_o _ om om];exact hda
       ·by_cases e:x=i
        ·subst e;rw[swp_l];exact hl
        ·rw[swp_o _ e om];exact hlo x x0 om
       ·by_cases e:x=j
        ·subst e;rw[swp_r];exact hstop om
        ·rw[swp_o _ om e];exact hhi x om x1
     ·exact ifd (fun _=>fin d' i j false om om om hsm hda hlo hhi w hs) (fun hc'=>by omega)
    ·dsimp only
     refine⟨fun m' (s:Int) w=> ∃i:Nat,s=i/\i0<=i/\i<=j0+1/\m'=j0+1-i/\(∀x,a<x->x<i->I.lt (d' x) (d p)=true)/\Sat w (I.St d'++R),⟨_,i0,rfl,Nat.le_refl _,hij0,rfl,hlo0,hs⟩,?_⟩
     clear hs
     rintro m' s w ⟨i,rfl,hi,hij,hm',hlo,hs⟩
     refine ifd (fun hc=>?_) (fun hc=>?_)
     ·refine I.less d' _ _ R w _ hs om om om om fun w hs=>?_
      rw[Int.toNat_natCast,Int.toNat_natCast,hda]
      refine ifb (fun hl=>?_) (fun hl=>?_)
      ·rw[w1 om]
       refine⟨j0+1-(i+1),by omega,i+1,rfl,by omega,by omega,rfl,fun x x0 x1=>?_,hs⟩
       by_cases e:x=i
       ·subst e;exact hl
       ·exact hlo x x0 om
      ·exact⟨i,rfl,hi,hij,hlo,fun _=>hl,hs⟩
     ·exact⟨i,rfl,hi,hij,hlo,fun h=>by omega,hs⟩
  ·refine⟨fun m' (s:Int) w=> ∃j:Nat,s=j/\i<=j+1/\j<b/\m'=j/\(∀x,j<x->x<b->I.lt (d0 x) (d p)=false)/\Sat w (I.St d0++R),⟨_,b-1,rfl,by omega,by omega,rfl,fun x _ _=>by omega,hs⟩,?_⟩
   clear hs
   rintro m' s w ⟨j,rfl,hij,hjb,hm',hhi,hs⟩
   refine ifd (fun hc=>?_) (fun hc=>?_)
   ·refine I.less d0 _ _ R w _ hs om om om om fun w hs=>?_
    rw[Int.toNat_natCast,Int.toNat_natCast,hda0]
    refine ifn (fun hl=>?_) (fun hl=>?_)
    ·rw[n1 om om]
     refine⟨j-1,by omega,j-1,rfl,by omega,by omega,rfl,fun x x0 x1=>?_,hs⟩
     by_cases e:x=j
     ·subst e;exact hl
     ·exact hhi x om x1
    ·exact⟨j,rfl,hij,hjb,hhi,fun _=>hl,hs⟩
   ·exact⟨j,rfl,hij,hjb,hhi,fun h=>by omega,hs⟩
 ·refine⟨fun m' (s:Int) w=> ∃i:Nat,s=i/\a<i/\i<=b/\m'=b-i/\(∀x,a<x->x<i->I.lt (d0 x) (d p)=true)/\Sat w (I.St d0++R),⟨_,a+1,rfl,by omega,by omega,rfl,fun x _ _=>by omega,hs⟩,?_⟩
  clear hs
  rintro m' s w ⟨i,rfl,hi,hib,hm',hlo,hs⟩
  refine ifd (fun hc=>?_) (fun hc=>?_)
  ·refine I.less d0 _ _ R w _ hs om om om om fun w hs=>?_
   rw[Int.toNat_natCast,Int.toNat_natCast,hda0]
   refine ifb (fun hl=>?_) (fun hl=>?_)
   ·rw[w1 om]
    refine⟨b-(i+1),by omega,i+1,rfl,by omega,by omega,rfl,fun x x0 x1=>?_,hs⟩
    by_cases e:x=i
    ·subst e;exact hl
    ·exact hlo x x0 om
   ·exact⟨i,rfl,hi,hib,hlo,fun _=>hl,hs⟩
  ·exact⟨i,rfl,hi,hib,hlo,fun h=>by omega,hs⟩
end
end Go.Proofs.YtpkoddfamelnhaaGreatDoor
namespace Go.Tr
theorem BelowI.same {α:Type}{lt:α->α->Bool}{a b:Nat}{d d':Nat->α}(h:BelowI lt a b d)(s:SameI a b d d'):BelowI lt a b d':=by
 rcases h with h|h
 ·exact .inl h
 ·by_cases e:a=0
  ·exact .inl e
  ·refine .inr fun i h1 h2=>?_
   rw[s.out (j:=a-1) om]
   obtain⟨j,j1,j2,ej⟩:=s.back h1 h2
   rw[ej];exact h j j1 j2
theorem BelowI.mono {α:Type}{lt:α->α->Bool}{a b b':Nat}{d:Nat->α}(h:BelowI lt a b d)(hb:b'<=b):BelowI lt a b' d:=
 h.imp id fun h i h1 h2=>h i h1 om
end Go.Tr
namespace Go.Proofs.YtpkoddfamelnhaaGreatDoor
open Go Go.Tr
set_option maxRecDepth 100000
section
variable {α : Type} {I : SortI α}
theorem spec162 (hw : SWO I.lt) {d : Nat -> α} {a b : Nat} {R w} {K : Bool -> WP} (hs : Sat w (I.St d ++ R)) (hab : a < b) (hb : b <= I.n) (hbel : BelowI I.lt a b d)
    (k: ∀(r:Bool) d' w',SameI a b d d'->(r=true->Sorted I.lt a b d')->Sat w' (I.St d'++R)->K r w'):F162 I.v a b K w:=by
  have hn:=I.small
  unfold F162
  rw[w1 om]
  refine⟨fun m (s:Int×Int) w=> ∃(d':Nat->α) (i:Nat),s.1=i/\0<=s.2/\m=(5-s.2).toNat/\a<i/\i<=b/\SameI a b d d'/\Sorted I.lt a i d'/\Sat w (I.St d'++R),⟨_,d,a+1,rfl,by omega,rfl,by omega,by omega,SameI.refl _ _ _,fun x y _ _ _=>by omega,hs⟩,?_⟩
  clear hs
  rintro m ⟨s1,st⟩ w ⟨d',i,e1,hst,hm,hai,hib,hsm,hso,hs⟩
  dsimp only at e1 hst hm|-
  subst e1
  refine ifd (fun hc=>?_) (fun hc=>k _ _ _ hsm (by simp) hs)
  have est:IntKind.i64.wrap (st+1)=st+1:=wi64 om om
  rw[est]
  refine⟨fun(s:Int) w=> ∃i:Nat,s=i/\a<i/\i<=b/\Sorted I.lt a i d'/\Sat w (I.St d'++R),?_,?_⟩
  · clear hs hso hai hib i
    rintro s w ⟨i,rfl,hai,hib,hso,hs⟩
    refine ife (fun he=>?_) (fun he=>?_)
    · have:i=b:=by omega
      subst this
      exact k _ _ _ hsm (fun _=>hso) hs
    · have e1:IntKind.i64.wrap ((b:Int)-(a:Int))=((b-a:Nat):Int):=by rw[wi64 om om];omega
      have e2:IntKind.i64.wrap ((b:Int)-(i:Int))=((b-i:Nat):Int):=by rw[wi64 om om];omega
      have e3:IntKind.i64.wrap ((i:Int)-(a:Int))=((i-a:Nat):Int):=by rw[wi64 om om];omega
      have e4:IntKind.i64.wrap ((i:Int)-1)=((i-1:Nat):Int):=n1 om om
      have e5:IntKind.i64.wrap ((i:Int)+1)=((i+1:Nat):Int):=w1 om
      simp only[e1,e2,e3,e4,e5]
      refine ifd (fun _=>k _ _ _ hsm (by simp) hs) (fun _=>?_)
      refine I.swap d' _ _ R w _ hs om om om om fun w hs=>?_
      rw[Int.toNat_natCast,Int.toNat_natCast]at hs
      have hsm1:SameI a b d (swp d' i (i-1)):=hsm.trans (SameI.swap d' om om om om)
      refine⟨fun _ w=> ∃d1,SameI a b d d1/\Sorted I.lt a i d1/\Sat w (I.St d1++R),?_,?_⟩
      · clear hs hsm1
        rintro _ w ⟨d1,hsm1,hso1,hs⟩
        have fin: ∀d2 w,SameI a b d d2->Sorted I.lt a i d2->Sat w (I.St d2++R)-> ∃m1,m1<m/\ ∃(d':Nat->α) (i_1:Nat),((i:Int))=i_1/\0<=st+1/\m1=(5-(st+1)).toNat/\a<i_1/\i_1<=b/\SameI a b d d'/\Sorted I.lt a i_1 d'/\Sat w (I.St d'++R):=
          fun d2 w h1 h2 hs=>⟨_,by omega,d2,i,rfl,by omega,rfl,hai,hib,h1,h2,hs⟩
        refine ifd (fun _=>?_) (fun _=>fin d1 w hsm1 hso1 hs)
        refine⟨fun m' (s:Int) w=> ∃(d2:Nat->α) (j:Nat),s=j/\i<j/\j<=b/\m'=b-j/\SameI a b d d2/\Sorted I.lt a i d2/\Sat w (I.St d2++R),⟨_,d1,i+1,rfl,by omega,by omega,rfl,hsm1,hso1,hs⟩,?_⟩
        clear hs hsm1 hso1 d1
        rintro m' s w ⟨d1,j,rfl,hij,hjb,hm',hsm1,hso1,hs⟩
        refine ifd (fun hc'=>?_) (fun _=>fin d1 w hsm1 hso1 hs)
        rw[n1 (n:=j) om om]
        refine I.less d1 _ _ R w _ hs om om om om fun w hs=>?_
        refine ifn (fun _=>fin d1 w hsm1 hso1 hs) (fun _=>?_)
        refine I.swap d1 _ _ R w _ hs om om om om fun w hs=>?_
        rw[Int.toNat_natCast,Int.toNat_natCast]at hs
        rw[w1 om]
        refine⟨b-(j+1),by omega,_,j+1,rfl,by omega,by omega,rfl,hsm1.trans (SameI.swap d1 om om om om),fun x y h1 h2 h3=>?_,hs⟩
        rw[swp_o _ om om,swp_o _ om om]
        exact hso1 x y h1 h2 h3
      · have hins:Ins I.lt a (i-1) (i-1) (swp d' i (i-1)):=fun x y h1 h2 h3 h4=>by
          rw[swp_o _ om om,swp_o _ om om]
          exact hso x y h1 h2 om
        generalize swp d' i (i-1)=d1 at*
        have done: ∀d2,Sorted I.lt a (i-1+1) d2->Sorted I.lt a i d2:=fun d2 h=>by rwa[show i-1+1=i by omega]at h
        refine ifd (fun hc'=>?_) (fun hc'=>⟨d1,hsm1,fun x y _ _ _=>by omega,hs⟩)
        refine⟨fun m' (s:Int) w=> ∃(d2:Nat->α) (j:Nat),s=j/\a<=j/\j<=i-1/\m'=j/\SameI a b d d2/\Ins I.lt a (i-1) j d2/\Sat w (I.St d2++R),⟨_,d1,i-1,rfl,by omega,by omega,rfl,hsm1,hins,hs⟩,?_⟩
        clear hs hsm1 hins d1
        rintro m' s w ⟨d1,j,rfl,haj,hji,hm',hsm1,hins,hs⟩
        refine ifd (fun hc'' => ?_) (fun hc'' => ⟨d1, hsm1, done _ (by have : j = a := by omega
                                                                       subst this;exact hins.stop1),hs⟩)
        rw[n1 (n:=j) om om]
        refine I.less d1 _ _ R w _ hs om om om om fun w hs=>?_
        rw[Int.toNat_natCast,Int.toNat_natCast]
        by_cases eja:j=a
        · subst eja
          have hb1:=(hbel.same hsm1).resolve_left om j om om
          rw[hb1]
          refine ifn (fun _=>⟨d1,hsm1,done _ hins.stop1,hs⟩) (fun h=>by cases h)
        · refine ifn (fun hl=>⟨d1,hsm1,done _ (hins.stop2 hw om hji hl),hs⟩) (fun hl=>?_)
          refine I.swap d1 _ _ R w _ hs om om om om fun w hs=>?_
          rw[Int.toNat_natCast,Int.toNat_natCast]at hs
          exact⟨j-1,by omega,_,j-1,rfl,by omega,by omega,rfl,hsm1.trans (SameI.swap d1 om om om om),hins.step hw om hji hl,hs⟩
  · refine⟨fun m' (s:Int) w=> ∃i:Nat,s=i/\a<i/\i<=b/\m'=b-i/\Sorted I.lt a i d'/\Sat w (I.St d'++R),⟨_,i,rfl,hai,hib,rfl,hso,hs⟩,?_⟩
    clear hs hso hai hib i
    rintro m' s w ⟨i,rfl,hai,hib,hm',hso,hs⟩
    refine ifd (fun hc'=>?_) (fun _=>⟨i,rfl,hai,hib,hso,hs⟩)
    rw[n1 (n:=i) om om]
    refine I.less d' _ _ R w _ hs om om om om fun w hs=>?_
    rw[Int.toNat_natCast,Int.toNat_natCast]
    refine ifn (fun hl=>?_) (fun _=>⟨i,rfl,hai,hib,hso,hs⟩)
    rw[w1 om]
    refine⟨b-(i+1),by omega,i+1,rfl,by omega,by omega,rfl,fun x y h1 h2 h3=>?_,hs⟩
    by_cases e:y=i
    · subst e
      by_cases e2:x=y-1
      · subst e2;exact hl
      · exact hw.ntrans _ _ _ hl (hso x (y-1) h1 om om)
    · exact hso x y h1 h2 om
theorem spec132 (hw : SWO I.lt) : ∀ (N : Nat) {d : Nat -> α} {a b : Nat} {lim : Int} {R w} {K : Unit -> WP}, b - a = N -> Sat w (I.St d ++ R) -> a <= b -> b <= I.n -> BelowI I.lt a b d ->
  (∀d' w',SameI a b d d'->Sorted I.lt a b d'->Sat w' (I.St d'++R)->K () w')->F132 I.v a b lim K w:=by
 have hn:=I.small
 intro N
 induction N using Nat.strongRecOn with
 |_ N ih=>
 intro d a0 b0 lim R w K hN hs hab hb hbel k
 unfold F132
 refine⟨fun m (s:Int×Int×Int×Bool×Bool) w=> ∃(d':Nat->α) (a b:Nat),s.1=a/\s.2.1=b/\a<=b/\a0<=a/\b<=b0/\m=b-a/\SameI a0 b0 d d'/\BelowI I.lt a b d'/\(∀d'',SameI a b d' d''->Sorted I.lt a b d''->Sorted I.lt a0 b0 d'')/\Sat w (I.St d'++R),
  ⟨_,d,a0,b0,rfl,rfl,hab,Nat.le_refl _,Nat.le_refl _,rfl,SameI.refl _ _ _,hbel,fun _ _ h=>h,hs⟩,?_⟩
 clear hs hbel
 rintro m ⟨sa,sb,sl,wb,wp⟩ w ⟨d',a,b,e1,e2,hab',ha0,hb0,hm,hsm,hbel,hrest,hs⟩
 dsimp only at e1 e2|-
 subst e1 e2
 have e1:IntKind.i64.wrap ((b:Int)-(a:Int))=((b-a:Nat):Int):=by rw[wi64 om om];omega
 rw[e1]
 have kk: ∀d'' w,SameI a b d' d''->Sorted I.lt a b d''->Sat w (I.St d''++R)->K () w:=fun d'' w h1 h2 hs=>k d'' w (hsm.trans (h1.mono ha0 hb0)) (hrest d'' h1 h2) hs
 refine ifd (fun hc=>call157 (spec157 hw hs hab' om fun d'' w h1 h2 hs=>kk d'' w h1 h2 hs)) (fun hc=>?_)
 refine ife (fun _=>call158 (spec158 hw hs hab' om fun d'' w h1 h2 hs=>kk d'' w h1 h2 hs)) (fun _=>?_)
 refine⟨fun _ w=> ∃d1,SameI a b d' d1/\Sat w (I.St d1++R),?_,?_⟩
 ·clear hs
  rintro lim' w ⟨d1,hs1,hs⟩
  refine call160 (spec160 hs om om fun p hint w hp0 hp1 hs=>?_)
  refine⟨fun s w=> ∃(d2:Nat->α) (p:Nat),s.1=p/\a<=p/\p<b/\SameI a b d' d2/\Sat w (I.St d2++R),?_,?_⟩
  ·clear hs
   rintro⟨sp,sh⟩ w ⟨d2,p,ep,hp0,hp1,hs2,hs⟩
   dsimp only at ep|-
   subst ep
   refine⟨fun _ w=> ∃d3,SameI a b d' d3/\Sat w (I.St d3++R),?_,?_⟩
   ·clear hs
    rintro _ w ⟨d3,hs3,hs⟩
    have hbel3:=hbel.same hs3
    refine⟨fun s w=>s=(a:Int)/\Sat w (I.St d3++R),?_,?_⟩
    ·clear hs
     rintro s w ⟨rfl,hs⟩
     refine call164 (spec164 hw hs hp0 hp1 om fun mid q d4 w hm0 hm1 hs4 hmid hlo hhi hs=>⟨by omega,?_⟩)
     have e3:IntKind.i64.wrap ((mid:Int)-(a:Int))=((mid-a:Nat):Int):=by rw[wi64 om om];omega
     have e4:IntKind.i64.wrap ((b:Int)-(mid:Int))=((b-mid:Nat):Int):=by rw[wi64 om om];omega
     have e5:IntKind.i64.wrap ((mid:Int)+1)=((mid+1:Nat):Int):=w1 om
     simp only[e3,e4,e5]
     have hbel4:=hbel3.same hs4
     have hall: ∀d5,(∀x,a<=x->x<mid->I.lt (d5 x) (d3 p)=true)->d5 mid=d3 p->(∀x,mid<x->x<b->I.lt (d5 x) (d3 p)=false)->Sorted I.lt a mid d5->Sorted I.lt (mid+1) b d5->Sorted I.lt a b d5:=by
      intro d5 h1 h2 h3 h4 h5 x y hx hxy hy
      by_cases c1:y<mid
      ·exact h4 x y hx hxy c1
      ·by_cases c2:mid<x
       ·exact h5 x y om hxy hy
       ·have hxm:I.lt (d3 p) (d5 x)=false:=by
         by_cases e:x=mid
         ·subst e;rw[h2];exact hw.irrefl _
         ·exact hw.asymm _ _ (h1 x hx om)
        have hym:I.lt (d5 y) (d3 p)=false:=by
         by_cases e:y=mid
         ·subst e;rw[h2];exact hw.irrefl _
         ·exact h3 y om hy
        exact hw.ntrans _ _ _ hym hxm
     refine ifd (fun _=>?_) (fun _=>?_)
     ·refine call132 (ih (mid-a) om rfl hs om om (hbel4.mono om) fun d5 w h5 h6 hs=>?_)
      have hlo5:=h5.all (P:=fun v=>I.lt v (d3 p)=true) hlo
      have hmid5:d5 mid=d3 p:=by rw[h5.out om];exact hmid
      have hhi5: ∀x,mid<x->x<b->I.lt (d5 x) (d3 p)=false:=fun x h1 h2=>by rw[h5.out om];exact hhi x h1 h2
      refine⟨_,by omega,d5,mid+1,b,rfl,rfl,by omega,by omega,hb0,rfl,hsm.trans (((hs3.trans hs4).trans (h5.mono (Nat.le_refl _) om)).mono ha0 hb0),.inr fun x h1 h2=>?_,fun d6 h7 h8=>?_,hs⟩
      ·rw[show mid+1-1=mid by omega,hmid5];exact hhi5 x om h2
      ·refine hrest d6 (((hs3.trans hs4).trans (h5.mono (Nat.le_refl _) om)).trans (h7.mono om (Nat.le_refl _))) (hall d6 ?_ ?_ ?_ ?_ h8)
       ·intro x h1 h2;rw[h7.out om];exact hlo5 x h1 h2
       ·rw[h7.out om];exact hmid5
       ·intro x h1 h2;exact h7.all (P:=fun v=>I.lt v (d3 p)=false) (fun y y1 y2=>hhi5 y om y2) x om h2
       ·intro x y h1 h2 h3;rw[h7.out om,h7.out om];exact h6 x y h1 h2 h3
     ·refine call132 (ih (b-(mid+1)) om rfl hs om om (.inr fun x h1 h2=>?_) fun d5 w h5 h6 hs=>?_)
      ·rw[show mid+1-1=mid by omega,hmid];exact hhi x om h2
      have hlo5: ∀x,a<=x->x<mid->I.lt (d5 x) (d3 p)=true:=fun x h1 h2=>by rw[h5.out om];exact hlo x h1 h2
      have hmid5:d5 mid=d3 p:=by rw[h5.out om];exact hmid
      have hhi5:=h5.all (P:=fun v=>I.lt v (d3 p)=false) (fun x h1 h2=>hhi x om h2)
      refine⟨_,by omega,d5,a,mid,rfl,rfl,by omega,ha0,by omega,rfl,hsm.trans (((hs3.trans hs4).trans (h5.mono om (Nat.le_refl _))).mono ha0 hb0),(hbel4.same (h5.mono om (Nat.le_refl _))).mono om,fun d6 h7 h8=>?_,hs⟩
      refine hrest d6 (((hs3.trans hs4).trans (h5.mono om (Nat.le_refl _))).trans (h7.mono (Nat.le_refl _) om)) (hall d6 ?_ ?_ ?_ h8 ?_)
      ·intro x h1 h2;exact h7.all (P:=fun v=>I.lt v (d3 p)=true) hlo5 x h1 h2
      ·rw[h7.out om];exact hmid5
      ·intro x h1 h2;rw[h7.out om];exact hhi5 x om h2
      ·intro x y h1 h2 h3;rw[h7.out om,h7.out om];exact h6 x y h1 h2 h3
    ·refine ifd (fun hc'=>?_) (fun _=>⟨rfl,hs⟩)
     rw[n1 (n:=a) om om]
     refine I.less d3 _ _ R w _ hs om om om om fun w hs=>?_
     rw[Int.toNat_natCast,Int.toNat_natCast]
     refine ifn (fun hl=>?_) (fun _=>⟨rfl,hs⟩)
     have hbb:=hbel3.resolve_left om
     refine call163 (spec163 hw hs hp0 hp1 om (fun i h1 h2=>hw.ntrans _ _ _ (hbb i h1 h2) hl) fun mid d4 w hm0 hm1 hs4 hlo hhi hs=>?_)
     have hple: ∀x,a<=x->x<b->I.lt (d4 x) (d3 p)=false:=hs4.all (P:=fun v=>I.lt v (d3 p)=false) fun i h1 h2=>hw.ntrans _ _ _ (hbb i h1 h2) hl
     refine⟨_,by omega,d4,mid,b,rfl,rfl,by omega,by omega,hb0,rfl,hsm.trans ((hs3.trans hs4).mono ha0 hb0),.inr fun x h1 h2=>?_,fun d6 h7 h8=>?_,hs⟩
     ·exact hw.ntrans _ _ _ (hw.asymm _ _ (hhi x h1 h2)) (hlo (mid-1) om om)
     ·refine hrest d6 ((hs3.trans hs4).trans (h7.mono om (Nat.le_refl _))) fun x y h1 h2 h3=>?_
      by_cases c1:mid<=x
      ·exact h8 x y c1 h2 h3
      ·have hx:I.lt (d3 p) (d6 x)=false:=by rw[h7.out om];exact hlo x h1 om
       by_cases c2:mid<=y
       ·have:=h7.all (P:=fun v=>I.lt (d3 p) v=true) hhi y c2 h3
        exact hw.ntrans _ _ _ (hw.asymm _ _ this) hx
       ·have hy:I.lt (d6 y) (d3 p)=false:=by rw[h7.out om];exact hple y om h3
        exact hw.ntrans _ _ _ hy hx
   ·refine ifb (fun _=>ifb (fun _=>ife (fun _=>?_) (fun _=>⟨d2,hs2,hs⟩)) (fun _=>⟨d2,hs2,hs⟩)) (fun _=>⟨d2,hs2,hs⟩)
    refine call162 (spec162 hw hs om om (hbel.same hs2) fun r d3 w h3 h4 hs=>?_)
    exact ifb (fun hr=>kk d3 w (hs2.trans h3) (h4 hr) hs) (fun _=>⟨d3,hs2.trans h3,hs⟩)
  ·refine ife (fun _=>?_) (fun _=>⟨d1,p,rfl,hp0,hp1,hs1,hs⟩)
   refine call161 (spec161 hs om om fun d2 w h2 hs=>?_)
   have e3:IntKind.i64.wrap ((b:Int)-1)=((b-1:Nat):Int):=n1 om om
   have e4:IntKind.i64.wrap ((p:Int)-(a:Int))=((p-a:Nat):Int):=by rw[wi64 om om];omega
   have e5:IntKind.i64.wrap (((b-1:Nat):Int)-((p-a:Nat):Int))=((b-1-(p-a):Nat):Int):=by rw[wi64 om om];omega
   simp only[e3,e4,e5]
   exact⟨d2,b-1-(p-a),rfl,by omega,by omega,hs1.trans h2,hs⟩
 ·refine ifn (fun _=>?_) (fun _=>⟨d',SameI.refl _ _ _,hs⟩)
  exact call159 (spec159 hs hab' om fun d1 w h1 hs=>⟨d1,h1,hs⟩)
theorem spec88 (hw:SWO I.lt){d:Nat->α}{R w}{K:Unit->WP}(hlen: ∀w (K:Int->WP),Sat w (I.St d++R)->(∀w',Sat w' (I.St d++R)->K I.n w')->CallI Tryz.prog I.v.enc "Len" [] [.one (.int .i64)] K w)
  (hs:Sat w (I.St d++R)) (k: ∀d' w',SameI 0 I.n d d'->Sorted I.lt 0 I.n d'->Sat w' (I.St d'++R)->K () w'):F88 I.v K w:=by
 have hn:=I.small
 unfold F88
 refine hlen w _ hs fun w hs=>?_
 refine ifd (fun hc=>k d w (SameI.refl _ _ _) (fun x y _ _ _=>by omega) hs) (fun hc=>?_)
 have e:IntKind.u64.wrap (I.n:Int)=I.n:=wu64 om om
 rw[e]
 refine call131 (spec131 om om ?_)
 exact call132 (spec132 (a:=0) (b:=I.n) hw I.n rfl hs (Nat.zero_le _) (Nat.le_refl _) (.inl rfl) k)
end
end Go.Proofs.YtpkoddfamelnhaaGreatDoor
namespace Go.Tr
variable {α : Type}
def Rel (lt:α->α->Bool)(tg:α->Nat)(x y:α):Prop:=lt y x=false/\(lt x y=false->tg x<tg y)
theorem Rel.trans {lt:α->α->Bool}{tg:α->Nat}(hw:SWO lt){x y z:α}(h:Rel lt tg x y)(k:Rel lt tg y z):Rel lt tg x z:=
 ⟨hw.ntrans _ _ _ k.1 h.1, fun e => by
  have h1:=h.2 (hw.ntrans _ _ _ e k.1)
  have h2:=k.2 (hw.ntrans _ _ _ h.1 e)
  omega⟩
theorem Rel.of_lt {lt:α->α->Bool}{tg:α->Nat}(hw:SWO lt){x y:α}(h:lt x y=true):Rel lt tg x y:=⟨hw.asymm _ _ h,fun e=>by rw[h]at e;cases e⟩
def SS (lt:α->α->Bool)(tg:α->Nat)(a b:Nat)(d:Nat->α):Prop:= ∀i j,a<=i->i<j->j<b->Rel lt tg (d i) (d j)
def InsS (lt:α->α->Bool)(tg:α->Nat)(a i j:Nat)(d:Nat->α):Prop:=(∀x y,a<=x->x<y->y<=i->y≠j->Rel lt tg (d x) (d y))/\ ∀x,a<=x->x<j->tg (d x)<tg (d j)
theorem InsS.stop1 {lt:α->α->Bool}{tg:α->Nat}{a i:Nat}{d:Nat->α}(h:InsS lt tg a i a d):SS lt tg a (i+1) d:=fun x y h1 h2 h3=>h.1 x y h1 h2 om om
theorem InsS.stop2 {lt:α->α->Bool}{tg:α->Nat}(hw:SWO lt){a i j:Nat}{d:Nat->α}(h:InsS lt tg a i j d)(haj:a<j)(hji:j<=i)(hs:lt (d j) (d (j-1))=false):SS lt tg a (i+1) d:=fun x y h1 h2 h3=>by
 by_cases e:y=j
 ·subst e
  have hr:Rel lt tg (d (y-1)) (d y):=⟨hs,fun _=>h.2 (y-1) om om⟩
  by_cases e2:x=y-1
  ·subst e2;exact hr
  ·exact(h.1 x (y-1) h1 om om om).trans hw hr
 ·exact h.1 x y h1 h2 om e
theorem InsS.step {lt:α->α->Bool}{tg:α->Nat}(hw:SWO lt){a i j:Nat}{d:Nat->α}(h:InsS lt tg a i j d)(haj:a<j)(hji:j<=i)(hs:lt (d j) (d (j-1))=true):InsS lt tg a i (j-1) (swp d j (j-1)):=by
 refine⟨fun x y h1 h2 h3 h4=>?_,fun x h1 h2=>?_⟩
 ·by_cases ey:y=j
  ·subst ey
   rw[swp_l]
   by_cases ex:x=y-1
   ·subst ex;rw[swp_r];exact Rel.of_lt hw hs
   ·rw[swp_o d om ex];exact h.1 x (y-1) h1 om om om
  ·rw[swp_o d ey h4]
   by_cases ex:x=j
   ·subst ex;rw[swp_l];exact h.1 (x-1) y om om h3 ey
   ·by_cases ex2:x=j-1
    ·subst ex2;rw[swp_r];exact h.1 j y om om h3 ey
    ·rw[swp_o d ex ex2];exact h.1 x y h1 h2 h3 ey
 ·rw[swp_r,swp_o d om om];exact h.2 x h1 om
end Go.Tr
namespace Go.Proofs.YtpkoddfamelnhaaGreatDoor
open Go Go.Tr
set_option maxRecDepth 100000
section
variable {α : Type} {I : SortI α} {tg : α → Nat}
theorem spec157s (hw:SWO I.lt){d:Nat->α}{a b:Nat}{R w}{K:Unit->WP}(hs:Sat w (I.St d++R))(hab:a<=b)(hb:b<=I.n)
  (ht: ∀x y,a<=x->x<y->y<b->tg (d x)<tg (d y))
  (k: ∀d' w',SameI a b d d'->SS I.lt tg a b d'->Sat w' (I.St d'++R)->K () w'):F157 I.v a b K w:=by
 have hn:=I.small
 unfold F157
 rw[w1 om]
 refine⟨fun m (s:Int) w=> ∃(i:Nat) (d':Nat->α),s=i/\a<i/\m=b-i/\SameI a (min i b) d d'/\SS I.lt tg a (min i b) d'/\Sat w (I.St d'++R),⟨_,a+1,d,rfl,by omega,rfl,SameI.refl _ _ _,fun x y _ _ _=>by omega,hs⟩,?_⟩
 clear hs
 rintro m s w ⟨i,d',rfl,hai,hm,h1,h2,hs⟩
 refine ifd (fun hc=>?_) (fun hc=>?_)
 ·rw[Nat.min_eq_left om]at h1 h2
  have hins:InsS I.lt tg a i i d':=⟨fun x y q1 q2 q3 q4=>h2 x y q1 q2 om,fun x q1 q2=>by
   rw[h1.out (j:=i) om]
   obtain⟨z,z1,z2,ez⟩:=h1.back q1 q2
   rw[ez];exact ht z i z1 z2 om⟩
  have h1':SameI a (i+1) d d':=h1.mono (Nat.le_refl _) om
  refine⟨fun m' (s:Int) w=> ∃(j:Nat) (d'':Nat->α),s=j/\a<=j/\j<=i/\m'=j/\SameI a (i+1) d d''/\InsS I.lt tg a i j d''/\Sat w (I.St d''++R),⟨_,i,d',rfl,by omega,by omega,rfl,h1',hins,hs⟩,?_⟩
  clear hs h1 h2 hins h1' d'
  rintro m' s w ⟨j,d',rfl,haj,hji,hm',h1,h2,hs⟩
  have fin: ∀w,SS I.lt tg a (i+1) d'->Sat w (I.St d'++R)-> ∃m1,m1<m/\ ∃(i':Nat) (d':Nat->α),IntKind.i64.wrap ((i:Int)+1)=i'/\a<i'/\m1=b-i'/\SameI a (min i' b) d d'/\SS I.lt tg a (min i' b) d'/\Sat w (I.St d'++R):=
   fun w h3 hs=>⟨b-(i+1),by omega,i+1,d',w1 om,by omega,rfl,by rw[Nat.min_eq_left om];exact h1,fun x y q1 q2 q3=>h3 x y q1 q2 om,hs⟩
  refine ifd (fun hc'=>?_) (fun hc'=>?_)
  ·rw[n1 om om]
   refine I.less d' _ _ R w _ hs om om om om fun w hs=>?_
   rw[Int.toNat_natCast,Int.toNat_natCast]
   refine ifb (fun hl=>?_) (fun hl=>?_)
   ·refine I.swap d' _ _ R w _ hs om om om om fun w hs=>?_
    rw[Int.toNat_natCast,Int.toNat_natCast]at hs
    exact⟨j-1,by omega,j-1,_,rfl,by omega,by omega,rfl,h1.trans (SameI.swap _ om om om om),h2.step hw om hji hl,hs⟩
   ·exact fin w (h2.stop2 hw om hji hl) hs
  ·have:j=a:=by omega
   subst this
   exact fin w h2.stop1 hs
 ·rw[Nat.min_eq_right om]at h1 h2
  exact k _ _ h1 h2 hs
theorem spec240 {d:Nat->α}{a b n lo hi:Nat}{R w}{K:Unit->WP}(hs:Sat w (I.St d++R))(hab:a+n<=b)(hlo:lo<=a)(hbn:b+n<=hi)(hb:hi<=I.n)
  (k: ∀d' w',SameI lo hi d d'->(∀k,k<n->d' (a+k)=d (b+k))->(∀k,k<n->d' (b+k)=d (a+k))->(∀x,(x<a\/a+n<=x)->(x<b\/b+n<=x)->d' x=d x)->Sat w' (I.St d'++R)->K () w'):F240 I.v a b n K w:=by
 have hn:=I.small
 unfold F240
 refine⟨fun m (s:Int) w=> ∃(i:Nat) (d':Nat->α),s=i/\i<=n/\m=n-i/\SameI lo hi d d'/\(∀k,k<i->d' (a+k)=d (b+k))/\(∀k,k<i->d' (b+k)=d (a+k))/\(∀x,(x<a\/a+i<=x)->(x<b\/b+i<=x)->d' x=d x)/\Sat w (I.St d'++R),⟨_,0,d,rfl,by omega,rfl,SameI.refl _ _ _,by omega,by omega,fun _ _ _=>rfl,hs⟩,?_⟩
 clear hs
 rintro m s w ⟨i,d',rfl,hi',hm,h1,h2,h3,h4,hs⟩
 refine ifd (fun hc=>?_) (fun hc=>?_)
 ·have e1:IntKind.i64.wrap ((a:Int)+(i:Int))=((a+i:Nat):Int):=by rw[wi64 om om];omega
  have e2:IntKind.i64.wrap ((b:Int)+(i:Int))=((b+i:Nat):Int):=by rw[wi64 om om];omega
  rw[e1,e2]
  refine I.swap d' _ _ R w _ hs om om om om fun w hs=>?_
  rw[Int.toNat_natCast,Int.toNat_natCast]at hs
  rw[w1 om]
  refine⟨n-(i+1),by omega,i+1,_,rfl,by omega,rfl,h1.trans (SameI.swap d' om om om om),fun k hk=>?_,fun k hk=>?_,fun x q1 q2=>?_,hs⟩
  ·by_cases e:k=i
   ·subst e;rw[swp_l];exact h4 _ om om
   ·rw[swp_o _ om om];exact h2 k om
  ·by_cases e:k=i
   ·subst e;rw[swp_r];exact h4 _ om om
   ·rw[swp_o _ om om];exact h3 k om
  ·rw[swp_o _ om om];exact h4 x om om
 ·have:i=n:=by omega
  subst this
  exact k _ _ h1 h2 h3 h4 hs
theorem spec239 {d:Nat->α}{a m b:Nat}{R w}{K:Unit->WP}(hs:Sat w (I.St d++R))(ham:a<m)(hmb:m<b)(hb:b<=I.n)
  (k: ∀d' w',SameI a b d d'->(∀k,k<b-m->d' (a+k)=d (m+k))->(∀k,k<m-a->d' (a+(b-m)+k)=d (a+k))->Sat w' (I.St d'++R)->K () w'):F239 I.v a m b K w:=by
 have hn:=I.small
 unfold F239
 have e1:IntKind.i64.wrap ((m:Int)-(a:Int))=((m-a:Nat):Int):=by rw[wi64 om om];omega
 have e2:IntKind.i64.wrap ((b:Int)-(m:Int))=((b-m:Nat):Int):=by rw[wi64 om om];omega
 rw[e1,e2]
 obtain⟨T,hT⟩: ∃T:Nat->α,T=fun x=>if x<a+(b-m)then d (x+(m-a))else d (x-(b-m)):=⟨_,rfl⟩
 have fin: ∀d' w,SameI a b d d'->(∀x,a<=x->x<b->T x=d' x)->Sat w (I.St d'++R)->K () w:=by
  intro d' w h1 h2 hs
  refine k d' w h1 (fun q hq=>?_) (fun q hq=>?_) hs
  ·rw[<-h2 _ om om,hT];dsimp only;rw[if_pos om];congr 1;omega
  ·rw[<-h2 _ om om,hT];dsimp only;rw[if_neg om];congr 1;omega
 refine⟨fun q (s:Int×Int) w=> ∃(i j:Nat) (d':Nat->α),s=((i:Int),(j:Int))/\0<i/\0<j/\a+i<=m/\m+j<=b/\q=i+j/\SameI a b d d'/\(∀x,m<=x+i->x+i<m+j->T x=d' (x+i))/\(∀x,m+j<=x+i->x<m+j->T x=d' (x-j))/\(∀x,a<=x->x<b->(x+i<m\/m+j<=x)->T x=d' x)/\Sat w (I.St d'++R),
  ⟨_,m-a,b-m,d,rfl,by omega,by omega,by omega,by omega,rfl,SameI.refl _ _ _,fun x q1 q2=>?_,fun x q1 q2=>?_,fun x q1 q2 q3=>by omega,hs⟩,?_⟩
 ·rw[hT];dsimp only;rw[if_pos om]
 ·rw[hT];dsimp only;rw[if_neg om]
 clear hs
 rintro q s w ⟨i,j,d',rfl,hi0,hj0,hai,hjb,hq,hsm,t1,t2,t3,hs⟩
 dsimp only
 have e3:IntKind.i64.wrap ((m:Int)-(i:Int))=((m-i:Nat):Int):=by rw[wi64 om om];omega
 rw[e3]
 refine ifne (fun hne=>?_) (fun he=>?_)
 ·refine ifd (fun hgt=>?_) (fun hle=>?_)
  ·refine call240 (spec240 (lo:=a) (hi:=b) hs om om om hb fun d'' w h1 h2 h3 h4 hs=>?_)
   have e4:IntKind.i64.wrap ((i:Int)-(j:Int))=((i-j:Nat):Int):=by rw[wi64 om om];omega
   rw[e4]
   refine⟨_,by omega,i-j,j,d'',rfl,by omega,by omega,by omega,by omega,rfl,hsm.trans h1,fun x q1 q2=>?_,fun x q1 q2=>?_,fun x q1 q2 q3=>?_,hs⟩
   ·rw[t2 x om om]
    have:=h3 (x+(i-j)-m) om
    rw[show m+(x+(i-j)-m)=x+(i-j) by omega,show m-i+(x+(i-j)-m)=x-j by omega]at this
    exact this.symm
   ·rw[t2 x om om]
    exact(h4 (x-j) om om).symm
   ·by_cases c:m-i<=x/\x<m-i+j
    ·rw[t1 x om om]
     have:=h2 (x-(m-i)) om
     rw[show m-i+(x-(m-i))=x by omega,show m+(x-(m-i))=x+i by omega]at this
     exact this.symm
    ·rw[t3 x q1 q2 om]
     exact(h4 x om om).symm
  ·have e4:IntKind.i64.wrap ((m:Int)+(j:Int))=((m+j:Nat):Int):=by rw[wi64 om om];omega
   have e5:IntKind.i64.wrap (((m+j:Nat):Int)-(i:Int))=((m+j-i:Nat):Int):=by rw[wi64 om om];omega
   have e6:IntKind.i64.wrap ((j:Int)-(i:Int))=((j-i:Nat):Int):=by rw[wi64 om om];omega
   simp only[e4,e5,e6]
   refine call240 (spec240 (lo:=a) (hi:=b) hs om om om hb fun d'' w h1 h2 h3 h4 hs=>?_)
   refine⟨_,by omega,i,j-i,d'',rfl,by omega,by omega,by omega,by omega,rfl,hsm.trans h1,fun x q1 q2=>?_,fun x q1 q2=>?_,fun x q1 q2 q3=>?_,hs⟩
   ·rw[t1 x om om]
    exact(h4 (x+i) om om).symm
   ·rw[t1 x om om]
    have:=h2 (x+i-(m+j-i)) om
    rw[show m-i+(x+i-(m+j-i))=x-(j-i) by omega,show m+j-i+(x+i-(m+j-i))=x+i by omega]at this
    exact this.symm
   ·by_cases c:m+j-i<=x/\x<m+j
    ·rw[t2 x om om]
     have:=h3 (x-(m+j-i)) om
     rw[show m+j-i+(x-(m+j-i))=x by omega,show m-i+(x-(m+j-i))=x-j by omega]at this
     exact this.symm
    ·rw[t3 x q1 q2 om]
     exact(h4 x om om).symm
 ·have:i=j:=by omega
  subst this
  refine call240 (spec240 (lo:=a) (hi:=b) hs om om om hb fun d'' w h1 h2 h3 h4 hs=>?_)
  refine fin d'' w (hsm.trans h1) (fun x q1 q2=>?_) hs
  by_cases c1:x+i<m\/m+i<=x
  ·rw[t3 x q1 q2 c1];exact(h4 x om om).symm
  ·by_cases c2:x<m
   ·rw[t1 x om om]
    have:=h2 (x-(m-i)) om
    rw[show m-i+(x-(m-i))=x by omega,show m+(x-(m-i))=x+i by omega]at this
    exact this.symm
   ·rw[t2 x om om]
    have:=h3 (x-m) om
    rw[show m+(x-m)=x by omega,show m-i+(x-m)=x-i by omega]at this
    exact this.symm
end
theorem shrN {a b:Nat}(h:a+b<2^62):IntKind.i64.wrap ((IntKind.u64.wrap (IntKind.i64.wrap ((a:Int)+(b:Int)))).fdiv (2^(min 1 IntKind.u64.bits)))=(((a+b)/2:Nat):Int):=by
 rw[shr1 om om];omega
section
variable {α : Type} {I : SortI α} {tg : α → Nat}
theorem merge1 (hw:SWO I.lt){d:Nat->α}{a b:Nat}{R w}{K:Unit->WP}(hs:Sat w (I.St d++R))(hab:a+1<b)(hb:b<=I.n)
  (h2:SS I.lt tg (a+1) b d) (ht: ∀y,a+1<=y->y<b->tg (d a)<tg (d y)) (k: ∀d' w',SameI a b d d'->SS I.lt tg a b d'->Sat w' (I.St d'++R)->K () w'):
  Tr.Loop (fun(next6:(Int×Int)->WP) (s5:Int×Int) w=>(if(decide (s5.1<s5.2))=true then 0<=(1:Int)/\CallI Tryz.prog (IV.enc I.v) "Less" [.int .i64 (IntKind.i64.wrap (((IntKind.u64.wrap (IntKind.i64.wrap (s5.1+s5.2)))).fdiv (2^(min 1 IntKind.u64.bits)))),.int .i64 (a:Int)] [(.one .bool)] (fun(r7:Bool) w=>(if r7=true then next6 ((IntKind.i64.wrap ((IntKind.i64.wrap (((IntKind.u64.wrap (IntKind.i64.wrap (s5.1+s5.2)))).fdiv (2^(min 1 IntKind.u64.bits))))+(1:Int))),s5.2) w else next6 (s5.1,(IntKind.i64.wrap (((IntKind.u64.wrap (IntKind.i64.wrap (s5.1+s5.2)))).fdiv (2^(min 1 IntKind.u64.bits))))) w)) w else Tr.Loop (fun(next9:Int->WP) (s8:Int) w=>(if(decide (s8<(IntKind.i64.wrap (s5.1-(1:Int)))))=true then CallI Tryz.prog (IV.enc I.v) "Swap" [.int .i64 s8,.int .i64 (IntKind.i64.wrap (s8+(1:Int)))] [] (fun(r10:Unit) w=>next9 (IntKind.i64.wrap (s8+(1:Int))) w) w else K () w)) (a:Int) w)) (((a+1:Nat):Int),(b:Int)) w:=by
 have hn:=I.small
 refine⟨fun q (s:Int×Int) w=> ∃(i j:Nat),s=((i:Int),(j:Int))/\a+1<=i/\i<=j/\j<=b/\q=j-i/\(∀x,a+1<=x->x<i->I.lt (d x) (d a)=true)/\(∀x,j<=x->x<b->I.lt (d x) (d a)=false)/\Sat w (I.St d++R),⟨_,a+1,b,rfl,by omega,by omega,by omega,rfl,by omega,by omega,hs⟩,?_⟩
 clear hs
 rintro q s w ⟨i,j,rfl,hi,hij,hj,hq,p1,p2,hs⟩
 dsimp only
 refine ifd (fun hc=>?_) (fun hc=>?_)
 ·have hh:i<=(i+j)/2/\(i+j)/2<j:=by omega
  rw[shrN om]
  generalize(i+j)/2=h at hh
  refine⟨by omega,I.less d _ _ R w _ hs om om om om fun w hs=>?_⟩
  rw[Int.toNat_natCast,Int.toNat_natCast]
  refine ifb (fun hl=>?_) (fun hl=>?_)
  ·rw[w1 om]
   refine⟨_,?_,h+1,j,rfl,by omega,by omega,by omega,rfl,fun x x0 x1=>?_,p2,hs⟩
   ·omega
   ·by_cases e:x=h
    ·subst e;exact hl
    ·cases hq:I.lt (d x) (d a)with
     |true=>rfl
     |false=>have:=hw.ntrans _ _ _ (h2 x h x0 om om).1 hq;rw[hl]at this;cases this
  ·refine⟨_,?_,i,h,rfl,by omega,by omega,by omega,rfl,p1,fun x x0 x1=>?_,hs⟩
   ·omega
   ·by_cases e:x=h
    ·subst e;exact hl
    ·exact hw.ntrans _ _ _ (h2 h x om om x1).1 hl
 ·have:i=j:=by omega
  subst this
  rw[n1 (n:=i) om om]
  refine⟨fun q (s:Int) w=> ∃(c:Nat) (d':Nat->α),s=c/\a<=c/\c<=i-1/\q=i-1-c/\SameI a b d d'/\(∀x,a<=x->x<c->d' x=d (x+1))/\d' c=d a/\(∀x,c<x->d' x=d x)/\Sat w (I.St d'++R),⟨_,a,d,rfl,by omega,by omega,rfl,SameI.refl _ _ _,by omega,rfl,fun _ _=>rfl,hs⟩,?_⟩
  clear hs
  rintro q' s w ⟨c,d',rfl,hac,hci,hq',hsm,g1,g2,g3,hs⟩
  refine ifd (fun hc'=>?_) (fun hc'=>?_)
  ·rw[w1 om]
   refine I.swap d' _ _ R w _ hs om om om om fun w hs=>?_
   rw[Int.toNat_natCast,Int.toNat_natCast]at hs
   refine⟨_,?_,c+1,_,rfl,by omega,by omega,rfl,hsm.trans (SameI.swap d' om om om om),fun x x0 x1=>?_,?_,fun x x0=>?_,hs⟩
   ·omega
   ·by_cases e:x=c
    ·subst e;rw[swp_l];exact g3 _ om
    ·rw[swp_o _ e om];exact g1 x x0 om
   ·rw[swp_r];exact g2
   ·rw[swp_o _ om om];exact g3 x om
  ·have:c=i-1:=by omega
   subst this
   refine k d' w hsm (fun x y x0 xy y1=>?_) hs
   by_cases cy:y<i-1
   ·rw[g1 x x0 om,g1 y om cy];exact h2 _ _ om om om
   ·by_cases cy2:y=i-1
    ·subst cy2;rw[g2,g1 x x0 xy];exact Rel.of_lt hw (p1 _ om om)
    ·rw[g3 y om]
     by_cases cx:x<i-1
     ·rw[g1 x x0 cx];exact h2 _ _ om om y1
     ·by_cases cx2:x=i-1
      ·subst cx2;rw[g2];exact⟨p2 y om y1,fun _=>ht y om y1⟩
      ·rw[g3 x om];exact h2 _ _ om xy y1
theorem merge2 (hw:SWO I.lt){d:Nat->α}{a m:Nat}{R w}{K:Unit->WP}(hs:Sat w (I.St d++R))(ham:a<m)(hb:m+1<=I.n)
  (h1:SS I.lt tg a m d) (ht: ∀x,a<=x->x<m->tg (d x)<tg (d m)) (k: ∀d' w',SameI a (m+1) d d'->SS I.lt tg a (m+1) d'->Sat w' (I.St d'++R)->K () w'):
  Tr.Loop (fun(next12:(Int×Int)->WP) (s11:Int×Int) w=>(if(decide (s11.1<s11.2))=true then 0<=(1:Int)/\CallI Tryz.prog (IV.enc I.v) "Less" [.int .i64 (m:Int),.int .i64 (IntKind.i64.wrap (((IntKind.u64.wrap (IntKind.i64.wrap (s11.1+s11.2)))).fdiv (2^(min 1 IntKind.u64.bits))))] [(.one .bool)] (fun(r13:Bool) w=>(if(!r13)=true then next12 ((IntKind.i64.wrap ((IntKind.i64.wrap (((IntKind.u64.wrap (IntKind.i64.wrap (s11.1+s11.2)))).fdiv (2^(min 1 IntKind.u64.bits))))+(1:Int))),s11.2) w else next12 (s11.1,(IntKind.i64.wrap (((IntKind.u64.wrap (IntKind.i64.wrap (s11.1+s11.2)))).fdiv (2^(min 1 IntKind.u64.bits))))) w)) w else Tr.Loop (fun(next15:Int->WP) (s14:Int) w=>(if(decide (s14>s11.1))=true then CallI Tryz.prog (IV.enc I.v) "Swap" [.int .i64 s14,.int .i64 (IntKind.i64.wrap (s14-(1:Int)))] [] (fun(r16:Unit) w=>next15 (IntKind.i64.wrap (s14-(1:Int))) w) w else K () w)) (m:Int) w)) ((a:Int),(m:Int)) w:=by
 have hn:=I.small
 refine⟨fun q (s:Int×Int) w=> ∃(i j:Nat),s=((i:Int),(j:Int))/\a<=i/\i<=j/\j<=m/\q=j-i/\(∀x,a<=x->x<i->I.lt (d m) (d x)=false)/\(∀x,j<=x->x<m->I.lt (d m) (d x)=true)/\Sat w (I.St d++R),⟨_,a,m,rfl,by omega,by omega,by omega,rfl,by omega,by omega,hs⟩,?_⟩
 clear hs
 rintro q s w ⟨i,j,rfl,hi,hij,hj,hq,p1,p2,hs⟩
 dsimp only
 refine ifd (fun hc=>?_) (fun hc=>?_)
 ·have hh:i<=(i+j)/2/\(i+j)/2<j:=by omega
  rw[shrN om]
  generalize(i+j)/2=h at hh
  refine⟨by omega,I.less d _ _ R w _ hs om om om om fun w hs=>?_⟩
  rw[Int.toNat_natCast,Int.toNat_natCast]
  refine ifn (fun hl=>?_) (fun hl=>?_)
  ·rw[w1 om]
   refine⟨_,?_,h+1,j,rfl,by omega,by omega,by omega,rfl,fun x x0 x1=>?_,p2,hs⟩
   ·omega
   ·by_cases e:x=h
    ·subst e;exact hl
    ·exact hw.ntrans _ _ _ hl (h1 x h x0 om om).1
  ·refine⟨_,?_,i,h,rfl,by omega,by omega,by omega,rfl,p1,fun x x0 x1=>?_,hs⟩
   ·omega
   ·by_cases e:x=h
    ·subst e;exact hl
    ·cases hq:I.lt (d m) (d x)with
     |true=>rfl
     |false=>have:=hw.ntrans _ _ _ hq (h1 h x om om x1).1;rw[hl]at this;cases this
 ·have:i=j:=by omega
  subst this
  refine⟨fun q (s:Int) w=> ∃(c:Nat) (d':Nat->α),s=c/\i<=c/\c<=m/\q=c/\SameI a (m+1) d d'/\(∀x,c<x->x<=m->d' x=d (x-1))/\d' c=d m/\(∀x,x<c->d' x=d x)/\Sat w (I.St d'++R),⟨_,m,d,rfl,by omega,by omega,rfl,SameI.refl _ _ _,by omega,rfl,fun _ _=>rfl,hs⟩,?_⟩
  clear hs
  rintro q' s w ⟨c,d',rfl,hac,hci,hq',hsm,g1,g2,g3,hs⟩
  refine ifd (fun hc'=>?_) (fun hc'=>?_)
  ·rw[n1 (n:=c) om om]
   refine I.swap d' _ _ R w _ hs om om om om fun w hs=>?_
   rw[Int.toNat_natCast,Int.toNat_natCast]at hs
   refine⟨_,?_,c-1,_,rfl,by omega,by omega,rfl,hsm.trans (SameI.swap d' om om om om),fun x x0 x1=>?_,?_,fun x x0=>?_,hs⟩
   ·omega
   ·by_cases e:x=c
    ·subst e;rw[swp_l];exact g3 _ om
    ·rw[swp_o _ e om];exact g1 x om x1
   ·rw[swp_r];exact g2
   ·rw[swp_o _ om om];exact g3 x om
  ·have:c=i:=by omega
   subst this
   refine k d' w hsm (fun x y x0 xy y1=>?_) hs
   by_cases cy:y<c
   ·rw[g3 x om,g3 y cy];exact h1 _ _ x0 xy om
   ·by_cases cy2:y=c
    ·subst cy2;rw[g2,g3 x xy];exact⟨p1 x x0 xy,fun _=>ht x x0 om⟩
    ·rw[g1 y om om]
     by_cases cx:x<c
     ·rw[g3 x cx];exact h1 _ _ x0 om om
     ·by_cases cx2:x=c
      ·subst cx2;rw[g2];exact Rel.of_lt hw (p2 _ om om)
      ·rw[g1 x om om];exact h1 _ _ om om om
end
end Go.Proofs.YtpkoddfamelnhaaGreatDoor
