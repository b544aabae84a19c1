/- Part 19 of the proof of fnBatchHistory_card. Conditions: none. -/
import Derived.Test.YtpkoddfamelnhaaGreatDoorH18
set_option linter.unusedVariables false
set_option linter.unusedSimpArgs false
namespace Go.Proofs.YtpkoddfamelnhaaGreatDoor
open Go Go.Tr
set_option maxRecDepth 100000
theorem keysAt_len {c:MC}(kg:KeysGood c)(y:ByteArray):(keysAt c y).length<=c.k*1048576:=by
 have: ∀n,n<=c.k->((List.range n).flatMap fun l=>match covs (c.S l).spans y with|some s=>s.keys|none=>[]).length<=n*1048576:=by
  intro n
  induction n with
  |zero=>intro _;simp
  | succ n ih =>
   intro hn
   rw[List.range_succ,List.flatMap_append,List.length_append]
   refine lstep (ih om) ?_
   simp only[List.flatMap_cons,List.flatMap_nil,List.append_nil]
   cases e:covs (c.S n).spans y with
   |none=>simp
   |some sp=>
    obtain⟨j,hj,_⟩:=covs_some e
    exact(kg n om sp (List.mem_of_getElem? hj)).1
 exact this c.k (Nat.le_refl _)
theorem Frag.len {c:MC}{v:UC}(cx:CtxOK c v){s:MSt}{a b:ByteArray}{sets:List KC}(fr:Frag c v.sn s a b sets):sets.length<2^32:=by
 obtain⟨acc,out,l,hrel,hout,hl,rfl⟩:=fr.vis
 have h1:=List.length_filter_le isSet (ded (sbD c.D) none l)
 have h2:=ded_len (sbD c.D) l none
 have h3:=hl.mem.1
 have h4:=(collect_sub v.sn out).2
 have h5:=hout.mem.1
 have h6:=hrel.len
 have h7:=keysAt_len cx.kg a
 have h8:=cx.ok.k10
 omega
theorem ahead_le {c:MC}{p q:Nat->Int}: ∀{n:Nat},(∀l,l<n->p l<=q l)->ahead c q n<=ahead c p n
 |0,_=>Nat.le_refl _
 |n+1,h=>by
  have h1:=ahead_le (c:=c) (p:=p) (q:=q) (n:=n) fun l hl=>h l om
  have h2:=h n om
  simp only[ahead]
  omega
theorem ahead_lt {c:MC}{p q:Nat->Int}{i:Nat}: ∀{n:Nat},(∀l,l<n->p l<=q l)->i<n->p i<q i->p i<2*(c.S i).n->ahead c q n<ahead c p n
 |0,_,h,_,_=>by omega
 | n + 1, h, hi, h1, h2 => by
  simp only[ahead]
  have g2:=h n om
  by_cases e:i=n
  ·subst e
   have:=ahead_le (c:=c) (p:=p) (q:=q) (n:=i) fun l hl=>h l om
   omega
  ·have:=ahead_lt (c:=c) (p:=p) (q:=q) (n:=n) (fun l hl=>h l om) om h1 h2
   omega
theorem Cut.ahead {c:MC}{p q:Nat->Int}{a b a' b':ByteArray}(h:Cut c p a b)(h':Cut c q a' b')(hab:bcmp a b<0)(hb:IsB c b)(hba:bcmp b a'<=0)(hab':bcmp a' b'<0):ahead c q c.k<Go.Proofs.YtpkoddfamelnhaaGreatDoor.ahead c p c.k:=by
 have hle: ∀l,l<c.k->p l<=q l:=fun l hl=>by
  obtain⟨g0,g1,g2,g3⟩:=h l hl
  obtain⟨f0,f1,f2,f3⟩:=h' l hl
  refine Int.not_lt.1 fun hlt=>?_
  have k1:=g2 (q l).toNat om
  have k2:=f3 (q l).toNat om om
  have k3:=bcmp_trans k2 k1
  have k4:=bcmp_lt_le hab hba
  exact absurd (bcmp_le_lt k3 (bcmp_lt_le k4 (lt_le_b hab'))) (by rw[bcmp_refl];omega)
 obtain⟨l,hl,i,hi,rfl⟩:=hb
 obtain⟨g0,g1,g2,g3⟩:=h l hl
 obtain⟨f0,f1,f2,f3⟩:=h' l hl
 have h1:p l<=i:=by
  refine Int.not_lt.1 fun hlt=>?_
  exact absurd (g2 i hlt) (not_le_b.2 hab)
 have h2:(i:Int)<q l:=by
  refine Int.not_le.1 fun hge=>?_
  have:=f3 i hge hi
  exact absurd (bcmp_lt_le hab' this) (not_lt_b.2 hba)
 exact ahead_lt hle hl om om
theorem m222SeekGE :MethAt Tryz.prog 222 "SeekGE" 260:=by intro v w;kernel_rfl
def FoundF (c:MC)(v:UC)(s:MSt)(e:ByteArray)(isp:Option Addr)(m:Nat):Prop:=
 (isp=none/\s.N=0/\ ∀y,bcmp e y<=0-> ¬covd c y)\/
 ∃a b sets svs,isp=some (c.m.add 4)/\Fwd c s/\Cut c s.pos a b/\Frag c v.sn s a b sets/\SVs c.D sets svs/\IsC v.sn (keysAt c a) svs/\bcmp e a<=0/\(∀y,bcmp e y<=0->bcmp y a<0-> ¬covd c y)/\m=ahead c s.pos c.k+1
theorem nextF {c:MC}{s:MSt}{v:UC}{u:UV}{bi di:Addr}{isp:Option Addr}{d:DSt}{R}{e:ByteArray}{mm:Nat}{w}{Z:Option Addr->WP}(cx:CtxOK c v)(hn:NextAt c s e)(hm: ∀q a' b',Cut c q a' b'->bcmp e a'<=0->bcmp a' b'<0->ahead c q c.k<mm)
  (h:Sat w (WX c s v u bi isp di d R)) (k: ∀s' u' isp' m w',m<=mm->FoundF c v s' e isp' m->Sat w' (WX c s' v u' bi isp' di d R)->Z isp' w'):CallI Tryz.prog (.iface 219 (.pointer (some bi))) "Next" [] [(.one .ptr)] Z w:=by
 refine CallI_run m219Next (call245 (spec245 cx hn h ?_ ?_))
 ·intro s' u' w hN hnc h
  exact k s' u' none 0 w (Nat.zero_le _) (.inl ⟨rfl,hN,hnc⟩) h
 ·intro s' a b sets u' w f1 f2 f3 f4 f5 h
  obtain⟨svs,g1,g2⟩:=f3.vis.sv (cx.nd a)
  exact k s' u' _ (ahead c s'.pos c.k+1) w (hm _ _ _ f2 f4 f3.lt) (.inr ⟨a,b,sets,svs,rfl,f1,f2,f3,g1,g2,f4,f5,rfl⟩) h
theorem dRd {c:MC}{s:MSt}{v:UC}{u:UV}{bi di:Addr}{isp:Option Addr}{d:DSt}{R}{x:Sl}{t:ByteArray}{w}(h:Sat w (WX c s v u bi isp di d R))(hx:BytesAt d.D2 x t\/(x=d.kb/\t=d.kbb)):RdB w x.a x.n t:=by
 rcases hx with hx|⟨rfl,rfl⟩
 ·exact h.rdB .k17 hx
 ·exact rdBuf1 (h.mv 20)
def LoopF (c:MC)(v:UC)(bi di:Addr)(R:List Chunk)(a b:ByteArray)(svs:List (ByteArray×ByteArray))(m:Nat)(w:World):Prop:=
 ∃s u d e,DOk d a e svs/\BytesAt d.D2 d.cs a/\bcmp b e<=0/\bcmp a e<0/\FoundF c v s e d.isp m/\Sat w (WX c s v u bi d.isp di d R)
def DoneF (c:MC)(v:UC)(bi di:Addr)(R:List Chunk)(a b:ByteArray)(svs:List (ByteArray×ByteArray))(w:World):Prop:=
 ∃s u d e,DOk d a e svs/\bcmp b e<=0/\(∀z,bcmp a z<=0->(∀y,bcmp a y<=0->bcmp y z<=0->covd c y/\IsC v.sn (keysAt c y) svs)->bcmp z e<0)/\ErrOK c s/\Sat w (WX c s v u bi d.isp di d R)
theorem spec263 {c:MC}{s:MSt}{v:UC}{u:UV}{bi di:Addr}{isp:Option Addr}{d:DSt}{R}{a b:ByteArray}{sets:List KC}{svs:List (ByteArray×ByteArray)}{w}{K:Option Addr->WP}(cx:CtxOK c v)(hA:d.A.c<=2^41)(hisp:d.isp=some (c.m.add 4))
  (hf:Fwd c s) (hc:Cut c s.pos a b) (fr:Frag c v.sn s a b sets) (hsv:SVs c.D sets svs) (hic:IsC v.sn (keysAt c a) svs) (hne:svs≠ []) (h:Sat w (WX c s v u bi isp di d R))
  (k: ∀s' u' isp' d' e w',DOk d' a e svs->bcmp b e<=0->(∀z,bcmp a z<=0->(∀y,bcmp a y<=0->bcmp y z<=0->covd c y/\IsC v.sn (keysAt c y) svs)->bcmp z e<0)->Sat w' (WX c s' v u' bi isp' di d' R)->K (some (di.add 6)) w'):F263 (some di) K w:=by
 have hsl:=fr.len cx
 have hl1:=hsv.len
 have hnz:sets.length≠0:=by rw[hl1];cases svs<;>simp_all
 unfold F263
 have h':=h
 unfold WX MSU MSL hp MSR UIL DL at h
 refine⟨_,rfl,Ld1 h ?_⟩
 rw[hisp]
 refine call134 (spec134s fr h' ?_)
 rw[if_neg (by simp[hnz])]
 refine call262 (spec262 cx hA hisp fr hsv hic hsl h' fun d w hd hcs hce hdi hdp h'=>?_)
 clear h
 have h:=h'
 unfold WX MSU MSL hp MSR UIL DL at h
 refine⟨_,rfl,St1 h rfl fun w h=>?_⟩
 have h':Sat w (WX c s v u bi isp di {d with ipos:=1} R):=h
 refine⟨_,rfl,Ld1 h ?_⟩
 have hna:NextAt c s b:=.inl ⟨hf,fr.st.1,fr.en.1,hc.mono (lt_le_b fr.lt) (le_refl_b b),hc.gap fr.lt fr.bb⟩
 refine nextF (mm:=ahead c s.pos c.k) cx hna (fun q a' b' g1 g2 g3=>hc.ahead g1 fr.lt fr.bb g2 g3) h' fun s1 u1 isp1 m1 w hm1 hfo h'=>?_
 clear h
 have h:=h'
 unfold WX MSU MSL hp MSR UIL DL at h
 refine⟨_,rfl,St1 h rfl fun w h=>?_⟩
 have hL:LoopF c v bi di R a b svs m1 w:=⟨s1,u1,{d with ipos:=1,isp:=isp1},b,⟨hd.A,hd.cs,hd.ce,hd.ck,hd.kn,hd.sv,hd.ord⟩,hcs,le_refl_b b,fr.lt,hfo,h⟩
 clear h h' hd hcs hce hdi hdp hfo hm1 hna
 refine⟨fun _ w=>DoneF c v bi di R a b svs w,?_,?_⟩
 ·rintro _ w ⟨s,u,d,e,hd,hbe,hz,he,h'⟩
  have h:=h'
  unfold WX MSU MSL hp MSR UIL DL at h
  refine⟨_,rfl,Ld1 h ?_⟩
  refine CallI_run m219Error (call242 (spec242 he h' fun w h'=>?_))
  clear h
  have h:Sat w (WX c s v u bi d.isp di d R):=h'
  unfold WX MSU MSL hp MSR UIL DL at h
  refine⟨IsI_enc _,?_⟩
  rw[isNilI_enc]
  refine ifn (fun hh=>by cases hh) (fun _=>?_)
  refine⟨_,rfl,Ld1 h ⟨_,rfl,Ld1 h ⟨_,rfl,St1 h rfl fun w h=>⟨_,rfl,?_⟩⟩⟩⟩
  exact k s u d.isp {d with ck:=d.KB} e w ⟨hd.A,hd.cs,hd.ce,rfl,hd.kn,hd.sv,hd.ord⟩ hbe hz h
 refine⟨fun m _ w=>LoopF c v bi di R a b svs m w,⟨_,hL⟩,?_⟩
 clear hL
 rintro m _ w ⟨s,u,d,e,hd,hcs,hbe,hae,hfo,h'⟩
 have h:=h'
 unfold WX MSU MSL hp MSR UIL DL at h
 refine⟨_,rfl,Ld1 h ?_⟩
 rcases hfo with⟨hn,hN,hnc⟩|⟨a',b',sets',svs',hi,hf',hc',fr',hsv',hic',hea,hnc,rfl⟩
 ·rw[hn]
  refine ifNNone ⟨s,u,d,e,hd,hbe,fun z hz hch=>?_,fun h0=>by omega,h'⟩
  refine not_le_b.1 fun hez=>?_
  exact hnc e (le_refl_b e) (hch e (lt_le_b hae) hez).1
 have hsl':=fr'.len cx
 rw[hi]
 refine ifNSome ⟨_,rfl,Ld1 h ⟨_,rfl,Ld1 h ⟨_,rfl,Ld1 h ?_⟩⟩⟩
 rw[hi]
 refine⟨_,rfl,Ld1 h ?_⟩
 rw[fr'.s0]
 refine callEq (a:=d.ce) (b:=s.start) (dRd h'.near hd.ce) (SAt.rd (show Sat _ (MSL c s _)from h'.near) fr'.st.2) ?_
 refine ifn (fun hne2=>?_) (fun heq=>?_)
 ·replace hne2:=of_decide_eq_false hne2
  refine⟨s,u,d,e,hd,hbe,fun z hz hch=>?_,hf'.err cx.ok,h'.near⟩
  refine not_le_b.1 fun hez=>?_
  refine hnc e (le_refl_b e) ?_ (hch e (lt_le_b hae) hez).1
  have:bcmp e a'≠0:=fun h0=>hne2 (bcmp_zero h0)
  omega
 replace heq:=of_decide_eq_true heq
 subst heq
 refine⟨_,rfl,Ld1 h ?_⟩
 rw[hi]
 refine⟨_,rfl,?_⟩
 refine call265 (spec265 fr' hsv' hd hi hsl' h'.near fun r w hr h'=>?_)
 refine ifn (fun hrf=>?_) (fun hrt=>?_)
 ·refine⟨s,u,d,e,hd,hbe,fun z hz hch=>?_,hf'.err cx.ok,h'.near⟩
  refine not_le_b.1 fun hez=>?_
  have g:=hic'.unique (hch e (lt_le_b hae) hez).2
  subst g
  rw[hr.2 ⟨rfl,hne⟩]at hrf
  cases hrf
 obtain⟨g,_⟩:=hr.1 hrt
 subst g
 clear h
 have h:=h'
 unfold WX MSU MSL hp MSR UIL DL at h
 have hbz:=fr'.bb.small cx.lo
 refine⟨_,rfl,Ld1 h ⟨_,rfl,Ld1 h ⟨_,rfl,Ld1 h ⟨⟨by omega,by dsimp only;omega⟩,_,rfl,Ld1 h ?_⟩⟩⟩⟩
 rw[hi]
 refine⟨_,rfl,Ld1 h ?_⟩
 rw[fr'.s1]
 have hrd:=SAt.rd (w:=w.drew.drew.drew) (show Sat _ (MSL c s _)from h'.near) fr'.en.2
 have hn:b'.size=s.end_.n:=by
  have h1:=fr'.en.1
  generalize s.end_=x at*
  obtain⟨xa,xn,xc⟩:=x
  cases xa with
  |none=>cases h1
  |some xa=>exact hrd.1
 have h2:=bufTrunc (h.mv 20)
 refine AppP_run (s:=si87) (old:=[]) (d:=⟨d.kb.a,0,d.kb.c⟩) (x:=⟨s.end_.a,s.end_.n,s.end_.c⟩) (new:=bytesOf b') h2 (RdB.rdS (SAt.rd (show Sat _ (MSL c s _)from h'.near) fr'.en.2)) (by rw[bytesOf_length,hn];exact(Nat.mul_one _).symm) (bytes_one b') (by show(2*(0+s.end_.n)+1024)*1<=_;omega) (by dsimp only;omega) fun kb' w er ea h=>?_
 refine⟨LdAt1 h,_,rfl,St1 h rfl fun w h=>⟨_,rfl,Ld1 h ⟨_,rfl,Ld1 h ⟨_,rfl,St1 h rfl fun w h=>?_⟩⟩⟩⟩
 refine⟨_,rfl,Ld1 h ⟨_,rfl,Ld1 h ⟨_,rfl,Ld1 h ⟨_,rfl,Ld1 h ⟨_,rfl,Ld1 h ?_⟩⟩⟩⟩⟩
 rw[hi]
 refine⟨_,rfl,Ld1 h ?_⟩
 refine CallV_run (call63 (cur1:=d.KB) (x2:=s.s2) ?_)
 unfold F63
 refine⟨LdAt1 h,_,rfl,St1 h rfl fun w h=>?_⟩
 have h':Sat w (WX c s v u bi (some (c.m.add 4)) di {d with isp:=some (c.m.add 4),kb:=kb',kbb:=b',ce:=kb'} R):=by
  have:=h.pt 20
  rw[hi]at this
  exact this
 refine⟨_,rfl,Ld1 h ?_⟩
 have hna:NextAt c s b':=.inl ⟨hf',fr'.st.1,fr'.en.1,hc'.mono (lt_le_b fr'.lt) (le_refl_b b'),hc'.gap fr'.lt fr'.bb⟩
 refine nextF (mm:=ahead c s.pos c.k) cx hna (fun q a' b' g1 g2 g3=>hc'.ahead g1 fr'.lt fr'.bb g2 g3) h'.near fun s1 u1 isp1 m1 w hm1 hfo h'=>?_
 clear h
 have h:=h'
 unfold WX MSU MSL hp MSR UIL DL at h
 refine⟨_,rfl,St1 h rfl fun w h=>?_⟩
 exact⟨m1,by omega,s1,u1,{d with isp:=isp1,kb:=kb',kbb:=b',ce:=kb'},b',⟨hd.A,.inl hcs,.inr ⟨rfl,rfl⟩,hd.ck,hd.kn,hd.sv,hd.ord⟩,hcs,bcmp_trans hbe (lt_le_b fr'.lt),bcmp_lt_le hae (lt_le_b fr'.lt),hfo,h⟩
theorem behind_le {p q:Nat->Int}: ∀{n:Nat},(∀l,l<n->q l<=p l)->behind q n<=behind p n
 |0,_=>Nat.le_refl _
 |n+1,h=>by
  have h1:=behind_le (p:=p) (q:=q) (n:=n) fun l hl=>h l om
  have h2:=h n om
  simp only[behind]
  omega
theorem behind_lt {p q:Nat->Int}{i:Nat}: ∀{n:Nat},(∀l,l<n->q l<=p l)->i<n->q i<p i->0<=p i->behind q n<behind p n
 |0,_,h,_,_=>by omega
 | n + 1, h, hi, h1, h2 => by
  simp only[behind]
  have g2:=h n om
  by_cases e:i=n
  ·subst e
   have:=behind_le (p:=p) (q:=q) (n:=i) fun l hl=>h l om
   omega
  ·have:=behind_lt (p:=p) (q:=q) (n:=n) (fun l hl=>h l om) om h1 h2
   omega
theorem Cut.behind {c:MC}{p q:Nat->Int}{a b a' b':ByteArray}(h:Cut c (fun l=>p l+1) a b)(h':Cut c (fun l=>q l+1) a' b')(hab:bcmp a b<0)(ha:IsB c a)(hba:bcmp b' a<=0)(hab':bcmp a' b'<0):Go.Proofs.YtpkoddfamelnhaaGreatDoor.behind q c.k<Go.Proofs.YtpkoddfamelnhaaGreatDoor.behind p c.k:=by
 have H: ∀l,l<c.k->0<=p l+1/\p l+1<=2*((c.S l).n:Int)/\(∀i:Nat,(i:Int)<p l+1->bcmp (bkey (c.S l).spans i) a<=0)/\ ∀i:Nat,p l+1<=i->i<2*(c.S l).n->bcmp b (bkey (c.S l).spans i)<=0:=fun l hl=>h l hl
 have H': ∀l,l<c.k->0<=q l+1/\q l+1<=2*((c.S l).n:Int)/\(∀i:Nat,(i:Int)<q l+1->bcmp (bkey (c.S l).spans i) a'<=0)/\ ∀i:Nat,q l+1<=i->i<2*(c.S l).n->bcmp b' (bkey (c.S l).spans i)<=0:=fun l hl=>h' l hl
 have hle: ∀l,l<c.k->q l<=p l:=fun l hl=>by
  obtain⟨g0,g1,g2,g3⟩:=H l hl
  obtain⟨f0,f1,f2,f3⟩:=H' l hl
  refine Int.not_lt.1 fun hlt=>?_
  have k1:=f2 (p l+1).toNat om
  have k2:=g3 (p l+1).toNat om om
  have k3:=bcmp_trans k2 k1
  have k4:=bcmp_lt_le hab' hba
  exact absurd (bcmp_lt_le (bcmp_le_lt k3 k4) (lt_le_b hab)) (by rw[bcmp_refl];omega)
 obtain⟨l,hl,i,hi,rfl⟩:=ha
 obtain⟨g0,g1,g2,g3⟩:=H l hl
 obtain⟨f0,f1,f2,f3⟩:=H' l hl
 have h1:(i:Int)<p l+1:=by
  refine Int.not_le.1 fun hge=>?_
  exact absurd (g3 i hge hi) (not_le_b.2 hab)
 have h2:q l+1<=i:=by
  refine Int.not_lt.1 fun hlt=>?_
  exact absurd (bcmp_le_lt (f2 i hlt) hab') (not_lt_b.2 hba)
 exact behind_lt hle hl om om
def FoundB (c:MC)(v:UC)(s:MSt)(e:ByteArray)(isp:Option Addr)(m:Nat):Prop:=
 (isp=none/\s.N=0/\s.dir= -1/\KN s/\(∀l,l<c.k->s.pos l= -1)/\ ∀y,bcmp y e<0-> ¬covd c y)\/
 ∃a b sets svs,isp=some (c.m.add 4)/\Bwd c s/\Cut c (fun l=>s.pos l+1) a b/\Frag c v.sn s a b sets/\SVs c.D sets svs/\IsC v.sn (keysAt c a) svs/\bcmp b e<=0/\(∀y,bcmp b y<=0->bcmp y e<0-> ¬covd c y)/\m=behind s.pos c.k+1
theorem prevB {c:MC}{s:MSt}{v:UC}{u:UV}{bi di:Addr}{isp:Option Addr}{d:DSt}{R}{e:ByteArray}{mm:Nat}{w}{Z:Option Addr->WP}(cx:CtxOK c v)(hn:PrevAt c s e)(hm: ∀q a' b',Cut c (fun l=>q l+1) a' b'->bcmp b' e<=0->bcmp a' b'<0->behind q c.k<mm)
  (h:Sat w (WX c s v u bi isp di d R)) (k: ∀s' u' isp' m w',m<=mm->FoundB c v s' e isp' m->Sat w' (WX c s' v u' bi isp' di d R)->Z isp' w'):CallI Tryz.prog (.iface 219 (.pointer (some bi))) "Prev" [] [(.one .ptr)] Z w:=by
 refine CallI_run m219Prev (call246 (spec246 cx hn h ?_ ?_))
 ·intro s' u' w hN hd hk hp hnc h
  exact k s' u' none 0 w (Nat.zero_le _) (.inl ⟨rfl,hN,hd,hk,hp,hnc⟩) h
 ·intro s' a b sets u' w f1 f2 f3 f4 f5 h
  obtain⟨svs,g1,g2⟩:=f3.vis.sv (cx.nd a)
  exact k s' u' _ (behind s'.pos c.k+1) w (hm _ _ _ f2 f4 f3.lt) (.inr ⟨a,b,sets,svs,rfl,f1,f2,f3,g1,g2,f4,f5,rfl⟩) h
def Alike (c:MC)(v:UC)(e b:ByteArray)(svs:List (ByteArray×ByteArray)):Prop:= ∀y,bcmp e y<=0->bcmp y b<0->covd c y/\IsC v.sn (keysAt c y) svs
def LoopB (c:MC)(v:UC)(bi di:Addr)(R:List Chunk)(a b:ByteArray)(svs:List (ByteArray×ByteArray))(m:Nat)(w:World):Prop:=
 ∃s u d e,DOk d e b svs/\BytesAt d.D2 d.ce b/\bcmp e a<=0/\bcmp e b<0/\Alike c v e b svs/\d.ipos= -1/\FoundB c v s e d.isp m/\Sat w (WX c s v u bi d.isp di d R)
def DoneB (c:MC)(v:UC)(bi di:Addr)(R:List Chunk)(a b:ByteArray)(svs:List (ByteArray×ByteArray))(w:World):Prop:=
 ∃s u d e x,d.A.c<=2^41/\d.ipos= -1/\bcmp e a<=0/\Alike c v e b svs/\ErrOK c s/\NextAt c s x/\bcmp x e<=0/\(∀y,bcmp x y<=0->bcmp y e<0-> ¬covd c y)/\Sat w (WX c s v u bi d.isp di d R)
theorem empty_le (s:ByteArray):bcmp .empty s<=0:=by
 rw[bcmp_eq]
 cases h:s.data.toList with
 |nil=>exact Int.le_refl 0
 |cons a l=>show(-1:Int)<=0;omega
theorem spec264 {c:MC}{s:MSt}{v:UC}{u:UV}{bi di:Addr}{isp:Option Addr}{d:DSt}{R}{a b:ByteArray}{sets:List KC}{svs:List (ByteArray×ByteArray)}{w}{K:Option Addr->WP}(cx:CtxOK c v)(hA:d.A.c<=2^41)(hisp:d.isp=some (c.m.add 4))
  (hf:Fwd c s) (hc:Cut c s.pos a b) (fr:Frag c v.sn s a b sets) (hsv:SVs c.D sets svs) (hic:IsC v.sn (keysAt c a) svs) (hne:svs≠ []) (h:Sat w (WX c s v u bi isp di d R))
  (k: ∀r w',DoneB c v bi di R a b svs w'->K r w'):F264 (some di) K w:=by
 have hsl:=fr.len cx
 have hl1:=hsv.len
 have lo:=cx.lo
 have hnz:sets.length≠0:=by rw[hl1];cases svs<;>simp_all
 unfold F264
 have h':=h
 unfold WX MSU MSL hp MSR UIL DL at h
 refine⟨_,rfl,Ld1 h ?_⟩
 rw[hisp]
 refine call134 (spec134s fr h' ?_)
 rw[if_neg (by simp[hnz])]
 refine call262 (spec262 cx hA hisp fr hsv hic hsl h' fun d w hd hcs hce hdi hdp h'=>?_)
 clear h
 have h:=h'
 unfold WX MSU MSL hp MSR UIL DL at h
 refine⟨_,rfl,St1 h rfl fun w h=>?_⟩
 have h':Sat w (WX c s v u bi isp di {d with ipos:= -1} R):=h
 refine⟨_,rfl,Ld1 h ?_⟩
 have hpa:PrevAt c s a:=.inr ⟨hf.dir,hf.kn,hc.mono (le_refl_b a) (lt_le_b fr.lt),hc.gapB fr.lt fr.ba⟩
 have hcp:Cut c (fun l=>(s.pos l-1)+1) a b:=by
  have:(fun l=>(s.pos l-1)+1)=s.pos:=funext fun l=>by omega
  rw[this];exact hc
 refine prevB (mm:=behind (fun l=>s.pos l-1) c.k) cx hpa (fun q a' b' g1 g2 g3=>Cut.behind (p:=fun l=>s.pos l-1) hcp g1 fr.lt fr.ba g2 g3) h' fun s1 u1 isp1 m1 w hm1 hfo h'=>?_
 clear h
 have h:=h'
 unfold WX MSU MSL hp MSR UIL DL at h
 refine⟨_,rfl,St1 h rfl fun w h=>?_⟩
 have hal:Alike c v a b svs:=fun y hy1 hy2=>by
  obtain⟨g1,g2⟩:=fr.cv y hy1 hy2
  exact⟨g1,by rw[g2];exact hic⟩
 have hL:LoopB c v bi di R a b svs m1 w:=⟨s1,u1,{d with ipos:= -1,isp:=isp1},a,⟨hd.A,hd.cs,hd.ce,hd.ck,hd.kn,hd.sv,hd.ord⟩,hce,le_refl_b a,fr.lt,hal,rfl,hfo,h⟩
 clear h h' hd hcs hce hdi hdp hfo hm1 hpa
 refine⟨fun _ w=>DoneB c v bi di R a b svs w,?_,?_⟩
 ·rintro _ w ⟨s,u,d,e,x,hdA,hip,hea,hal,he,hna,hxe,hnc,h'⟩
  have h:=h'
  unfold WX MSU MSL hp MSR UIL DL at h
  refine⟨_,rfl,Ld1 h ?_⟩
  refine CallI_run m219Error (call242 (spec242 he h' fun w h'=>?_))
  clear h
  have h:Sat w (WX c s v u bi d.isp di d R):=h'
  unfold WX MSU MSL hp MSR UIL DL at h
  refine⟨IsI_enc _,?_⟩
  rw[isNilI_enc]
  refine ifn (fun hh=>by cases hh) (fun _=>?_)
  refine⟨_,rfl,Ld1 h ⟨_,rfl,Ld1 h ⟨_,rfl,St1 h rfl fun w h=>⟨_,rfl,?_⟩⟩⟩⟩
  exact k _ w ⟨s,u,{d with ck:=d.KB},e,x,hdA,hip,hea,hal,he,hna,hxe,hnc,h⟩
 refine⟨fun m _ w=>LoopB c v bi di R a b svs m w,⟨_,hL⟩,?_⟩
 clear hL hal
 rintro m _ w ⟨s,u,d,e,hd,hce,hea,heb,hal,hip,hfo,h'⟩
 have h:=h'
 unfold WX MSU MSL hp MSR UIL DL at h
 refine⟨_,rfl,Ld1 h ?_⟩
 rcases hfo with⟨hn,hN,hdir,hkn,hpos,hnc⟩|⟨a',b',sets',svs',hi,hf',hc',fr',hsv',hic',hbe,hnc,rfl⟩
 ·rw[hn]
  refine ifNNone ⟨s,u,d,e,.empty,hd.A,hip,hea,hal,fun h0=>by omega,.inr ⟨hdir,hkn,fun l hl=>?_,fun y _ hb=>?_⟩,empty_le e,fun y _ hy=>hnc y hy,h'⟩
  ·have:=hpos l hl
   exact⟨by dsimp only;omega,by dsimp only;omega,fun p hp=>by dsimp only at hp;omega,fun p _ _=>empty_le _⟩
  ·rintro⟨l,hl,hcv⟩
   refine hcv ?_
   have hn:=(cx.ok.S l hl).len
   have e0:=hpos l hl
   rw[straddle (lo l hl) (q:=0) (Int.le_refl _) om (fun p hp=>by omega) (fun p hp hq=>hb l hl p (by dsimp only;omega) om),if_neg om]
 have hsl':=fr'.len cx
 have hex:NextAt c s b':=.inr ⟨hf'.dir,hf'.kn,hc'.mono (lt_le_b fr'.lt) (le_refl_b b'),hc'.gap fr'.lt fr'.bb⟩
 rw[hi]
 refine ifNSome ⟨_,rfl,Ld1 h ⟨_,rfl,Ld1 h ⟨_,rfl,Ld1 h ?_⟩⟩⟩
 rw[hi]
 refine⟨_,rfl,Ld1 h ?_⟩
 rw[fr'.s1]
 refine callEq (a:=d.cs) (b:=s.end_) (dRd h'.near hd.cs) (SAt.rd (show Sat _ (MSL c s _)from h'.near) fr'.en.2) ?_
 refine ifn (fun hne2=>?_) (fun heq=>?_)
 ·exact⟨s,u,d,e,b',hd.A,hip,hea,hal,hf'.err cx.ok,hex,hbe,hnc,h'.near⟩
 replace heq:=of_decide_eq_true heq
 subst heq
 refine⟨_,rfl,Ld1 h ?_⟩
 rw[hi]
 refine⟨_,rfl,?_⟩
 refine call265 (spec265 fr' hsv' hd hi hsl' h'.near fun r w hr h'=>?_)
 refine ifn (fun hrf=>?_) (fun hrt=>?_)
 ·exact⟨s,u,d,e,e,hd.A,hip,hea,hal,hf'.err cx.ok,hex,hbe,hnc,h'.near⟩
 obtain⟨g,_⟩:=hr.1 hrt
 subst g
 clear h
 have h:=h'
 unfold WX MSU MSL hp MSR UIL DL at h
 have hbz:=fr'.ba.small cx.lo
 refine⟨_,rfl,Ld1 h ⟨_,rfl,Ld1 h ⟨_,rfl,Ld1 h ⟨⟨by omega,by dsimp only;omega⟩,_,rfl,Ld1 h ?_⟩⟩⟩⟩
 rw[hi]
 refine⟨_,rfl,Ld1 h ?_⟩
 rw[fr'.s0]
 have hrd:=SAt.rd (w:=w.drew.drew.drew) (show Sat _ (MSL c s _)from h'.near) fr'.st.2
 have hn:a'.size=s.start.n:=by
  have h1:=fr'.st.1
  generalize s.start=x at*
  obtain⟨xa,xn,xc⟩:=x
  cases xa with
  |none=>cases h1
  |some xa=>exact hrd.1
 have h2:=bufTrunc (h.mv 20)
 refine AppP_run (s:=si87) (old:=[]) (d:=⟨d.kb.a,0,d.kb.c⟩) (x:=⟨s.start.a,s.start.n,s.start.c⟩) (new:=bytesOf a') h2 (RdB.rdS (SAt.rd (show Sat _ (MSL c s _)from h'.near) fr'.st.2)) (by rw[bytesOf_length,hn];exact(Nat.mul_one _).symm) (bytes_one a') (by show(2*(0+s.start.n)+1024)*1<=_;omega) (by dsimp only;omega) fun kb' w er ea h=>?_
 refine⟨LdAt1 h,_,rfl,St1 h rfl fun w h=>⟨_,rfl,Ld1 h ⟨_,rfl,Ld1 h ⟨_,rfl,St1 h rfl fun w h=>?_⟩⟩⟩⟩
 refine⟨_,rfl,Ld1 h ⟨_,rfl,Ld1 h ⟨_,rfl,Ld1 h ⟨_,rfl,Ld1 h ⟨_,rfl,Ld1 h ?_⟩⟩⟩⟩⟩
 rw[hi]
 refine⟨_,rfl,Ld1 h ?_⟩
 refine CallV_run (call63 (cur1:=d.KB) (x2:=s.s2) ?_)
 unfold F63
 refine⟨LdAt1 h,_,rfl,St1 h rfl fun w h=>?_⟩
 have h':Sat w (WX c s v u bi (some (c.m.add 4)) di {d with isp:=some (c.m.add 4),kb:=kb',kbb:=a',cs:=kb'} R):=by
  have:=h.pt 20
  rw[hi]at this
  exact this
 refine⟨_,rfl,Ld1 h ?_⟩
 have hpa:PrevAt c s a':=.inl ⟨hf',fr'.st.1,fr'.en.1,hc'.mono (le_refl_b a') (lt_le_b fr'.lt),hc'.gapB fr'.lt fr'.ba⟩
 refine prevB (mm:=behind s.pos c.k) cx hpa (fun q a' b' g1 g2 g3=>hc'.behind g1 fr'.lt fr'.ba g2 g3) h'.near fun s1 u1 isp1 m1 w hm1 hfo h'=>?_
 clear h
 have h:=h'
 unfold WX MSU MSL hp MSR UIL DL at h
 refine⟨_,rfl,St1 h rfl fun w h=>?_⟩
 refine⟨m1,by omega,s1,u1,{d with isp:=isp1,kb:=kb',kbb:=a',cs:=kb'},a',⟨hd.A,.inr ⟨rfl,rfl⟩,.inl hce,hd.ck,hd.kn,hd.sv,hd.ord⟩,hce,bcmp_trans (lt_le_b fr'.lt) hea,bcmp_lt_le fr'.lt (lt_le_b heb),fun y hy1 hy2=>?_,hip,hfo,h⟩
 by_cases e1:bcmp e y<=0
 ·exact hal y e1 hy2
 ·obtain⟨g1,g2⟩:=fr'.cv y hy1 (not_le_b.1 e1)
  exact⟨g1,by rw[g2];exact hic'⟩
def KSRd (w:World)(x:Sl)(kg:Nat->KC)(ks:List KeyM):Prop:=x.n=ks.length/\ ∀(j:Nat) (hj:j<ks.length),∃e:Addr,x.a=some e/\RdL w (e.add (j*3)) (kcells (kg j))/\(kg j).1=(ks[j]).tr/\RdB w (kg j).2.1.a (kg j).2.1.n (ks[j]).suf/\RdB w (kg j).2.2.a (kg j).2.2.n (ks[j]).val
def SpanRd (w:World)(p:Addr)(x:Sl×Sl×Sl×Int)(kg:Nat->KC)(lo hi:ByteArray)(ks:List KeyM):Prop:=RdL w p [.slice x.1.a x.1.n x.1.c,.slice x.2.1.a x.2.1.n x.2.1.c,.slice x.2.2.1.a x.2.2.1.n x.2.2.1.c,.int .i8 x.2.2.2]/\RdB w x.1.a x.1.n lo/\RdB w x.2.1.a x.2.1.n hi/\KSRd w x.2.2.1 kg ks
def svOf (m:KeyM):ByteArray×ByteArray:=(m.suf,m.val)
def zipK :List KC->List (ByteArray×ByteArray)->List KeyM
 |k::ks,p::ps=>⟨k.1,p.1,p.2⟩::zipK ks ps
 |_,_=>[]
theorem zipK_sv {D}: ∀{l:List KC} {s:List (ByteArray×ByteArray)},SVs D l s->(zipK l s).map svOf=s
 | [],[],_=>rfl
 | [],_::_,h=>h.elim
 |_::_,[],h=>h.elim
 |_::_,_::_,⟨_,h⟩=>by simp[zipK,svOf,zipK_sv h]
theorem zipK_get {D}: ∀{l:List KC} {s:List (ByteArray×ByteArray)},SVs D l s->(zipK l s).length=l.length/\ ∀(j:Nat) (hj:j<(zipK l s).length) (h1:j<l.length),(l[j]).1=((zipK l s)[j]).tr/\BytesAt D (l[j]).2.1 ((zipK l s)[j]).suf/\BytesAt D (l[j]).2.2 ((zipK l s)[j]).val
 | [],[],_=>⟨rfl,fun j hj=>by simp[zipK]at hj⟩
 | [],_::_,h=>h.elim
 |_::_,[],h=>h.elim
 |k::l,p::s,⟨h1,h2⟩=>by
  obtain⟨g1,g2⟩:=zipK_get h2
  refine⟨by simp[zipK,g1],fun j hj hj'=>?_⟩
  cases j with
  |zero=>exact⟨rfl,h1⟩
  |succ j=>exact g2 j (by simpa [zipK]using hj) (by simpa using hj')
theorem rdTail {w}{p:Addr}{xs ys:List Value}{n:Nat}(h:RdL w p (xs++ys))(hn:xs.length=n):RdL w (p.add n) ys:=by rw[<-hn];exact h.right
theorem Frag.rd {c:MC}{s:MSt}{v:UC}{u:UV}{bi di:Addr}{isp:Option Addr}{d:DSt}{R}{a b:ByteArray}{sets:List KC}{svs:List (ByteArray×ByteArray)}{w}(fr:Frag c v.sn s a b sets)(hsv:SVs c.D sets svs)(h:Sat w (WX c s v u bi isp di d R)):SpanRd w (c.m.add 4) (s.s0,s.s1,s.s2,s.s3) (fun j=>sets.getD j kd) a b (zipK sets svs):=by
 obtain⟨start,end_,s0,s1,s2,s3,dir,keys,kn,kcs,buf,bb,rev,N,f,pos⟩:=s
 obtain⟨st,en,e0,e1,e2,e3,e4,e5,lt,ba,bbd,cv,vi⟩:=fr
 dsimp only at e0 e1 e2 e3 e4 e5
 subst e0 e1 e2 e3 e4 e5
 have hl:=hsv.len
 obtain⟨zl,zg⟩:=zipK_get hsv
 refine⟨?_,SAt.rd (show Sat _ (MSL c _ _)from h) st.2,SAt.rd (show Sat _ (MSL c _ _)from h) en.2,zl.symm,fun j hj=>?_⟩
 ·have h1:=h.rdL .k4
  have h2:=rdTail (n:=4) (xs:=[_,_,_,_]) (ys:=_::_::_::_::_::_::[]) h1 rfl
  exact RdL.left (xs:=[_,_,_,_]) (ys:=[_,_]) h2
 ·have hj':j<sets.length:=by omega
  obtain⟨e,he,hr⟩:=bufRow (ks:=sets) (b:=⟨keys.a,sets.length,keys.c⟩) h .k7 hj'
  obtain⟨g0,g1,g2⟩:=zg j hj hj'
  dsimp only
  rw[getD_of hj']
  exact⟨e,he,hr,g0,h.rdB .k3 g1,h.rdB .k3 g2⟩
theorem DOk.rd {c:MC}{s:MSt}{v:UC}{u:UV}{bi di:Addr}{isp:Option Addr}{d:DSt}{R}{a b:ByteArray}{svs:List (ByteArray×ByteArray)}{w}(hd:DOk d a b svs)(h:Sat w (WX c s v u bi isp di d R)):SpanRd w (di.add 6) (d.cs,d.ce,d.KB,1) (fun j=>d.ks.getD j kd) a b (zipK d.ks svs):=by
 have hl:=hd.sv.len
 obtain⟨zl,zg⟩:=zipK_get hd.sv
 refine⟨?_,dRd h hd.cs,dRd h hd.ce,by rw[zl];exact hd.kn,fun j hj=>?_⟩
 ·have h1:=h.rdL .k15
  have h2:=rdTail (n:=6) (xs:=[_,_,_,_,_,_]) (ys:=_::_::_::_::_::_::[]) h1 rfl
  have h3:=RdL.left (xs:=[_,_,_,_]) (ys:=[_,_]) h2
  rw[hd.ck,hd.ord]at h3
  exact h3
 ·have hj':j<d.ks.length:=by omega
  obtain⟨e,he,hr⟩:=bufRow (ks:=d.ks) (b:=d.KB) h .k19 hj'
  obtain⟨g0,g1,g2⟩:=zg j hj hj'
  have tD: ∀{x:Sl} {t:ByteArray},BytesAt d.D2 x t->RdB w x.a x.n t:=fun hx=>h.rdB .k17 hx
  dsimp only
  rw[getD_of hj']
  exact⟨e,he,hr,g0,tD g1,tD g2⟩
def SeekRes (c:MC)(v:UC)(kb:ByteArray)(r:Option Addr)(rd:Addr->Sl×Sl×Sl×Int->(Nat->KC)->ByteArray->ByteArray->List KeyM->Prop):Prop:=
 (r=none/\ ¬covd c kb)\/ ∃p x kg lo hi ks,r=some p/\rd p x kg lo hi ks/\ks.length<2^32/\((bcmp lo kb<=0/\bcmp kb hi<0/\IsC v.sn (keysAt c kb) (ks.map svOf))\/(bcmp kb lo<0/\ ¬covd c kb))
theorem spec260 {c:MC}{s:MSt}{v:UC}{u:UV}{bi di:Addr}{isp:Option Addr}{d:DSt}{R R'}{kc:Chunk}{kb:ByteArray}{key:Sl}{w}{K:Option Addr->WP}(cx:CtxOK c v)(hkn:KN s)(hA:d.A.c<=2^41)(hcq:DAt c.D (v.cq.add 0) cmpV)
  (t:Take R kc R') (hkey: ∀w L,Sat w (kc::L)->RdB w key.a key.n kb) (h:Sat w (WX c s v u bi isp di d R))
  (k: ∀r s' u' isp' d' w',Sat w' (WX c s' v u' bi isp' di d' R)->SeekRes c v kb r (fun p x kg lo hi ks=> ∀R'' w'',Sat w'' (WX c s' v u' bi isp' di d' R'')->SpanRd w'' p x kg lo hi ks)->K r w'):F260 (some di) key K w:=by
 have lo:=cx.lo
 unfold F260
 have h':=h
 unfold WX MSU MSL hp MSR UIL DL at h
 refine⟨_,rfl,Ld1 h ?_⟩
 refine CallI_run m219SeekGE (call247 (key2:=key) (spec247 cx hkn (.there (.there (.there (.there (.there (.there t)))))) hkey h'.near ?_ ?_))
 ·intro s' u' w hN hnc h'
  have h:Sat w (WX c s' v u' bi none di d R):=h'
  unfold WX MSU MSL hp MSR UIL DL at h
  refine⟨_,rfl,St1 h rfl fun w h=>⟨_,rfl,Ld1 h (ifNone ⟨_,rfl,St1 h rfl fun w h=>?_⟩)⟩⟩
  exact k none s' u' none {d with isp:=none,ipos:=0} w h (.inl ⟨rfl,hnc kb (le_refl_b kb)⟩)
 intro s a b sets u w hf hc fr hkb hnc h'
 have h:Sat w (WX c s v u bi (some (c.m.add 4)) di d R):=h'
 clear h'
 unfold WX MSU MSL hp MSR UIL DL at h
 refine⟨_,rfl,St1 h rfl fun w h=>⟨_,rfl,Ld1 h (ifSome ⟨_,rfl,Ld1 h ?_⟩)⟩⟩
 have h':Sat w (WX c s v u bi (some (c.m.add 4)) di {d with isp:=some (c.m.add 4)} R):=h
 obtain⟨svs,hsv,hic⟩:=fr.vis.sv (cx.nd a)
 have hl:=hsv.len
 refine call134 (spec134s fr (show Sat w (MSL c s _)from h') ?_)
 by_cases e:sets.length=0
 ·rw[if_pos (by simp[e])]
  refine⟨_,rfl,St1 h rfl fun w h=>⟨_,rfl,Ld1 h ?_⟩⟩
  refine k _ s u (some (c.m.add 4)) {d with isp:=some (c.m.add 4),ipos:=0} w h (.inr ⟨_,_,_,a,b,_,rfl,fun R'' w'' h=>fr.rd hsv h,by rw[(zipK_get hsv).1];exact fr.len cx,?_⟩)
  rw[zipK_sv hsv]
  by_cases hak:bcmp a kb<=0
  ·refine .inl ⟨hak,hkb,?_⟩
   rw[(fr.cv kb hak hkb).2];exact hic
  ·exact .inr ⟨not_le_b.1 hak,hnc kb (le_refl_b kb) (not_le_b.1 hak)⟩
 rw[if_neg (by simp[e])]
 have hne:svs≠ []:=fun h0=>e (by rw[hl,h0];rfl)
 refine⟨_,rfl,Ld1 h ⟨_,rfl,LdC (h.near.dat .k3 hcq) ⟨_,rfl,Ld1 h ⟨_,rfl,Ld1 h ?_⟩⟩⟩⟩
 rw[fr.s0]
 have hrk:=hkey w.drew _ ((h.near (w':=w.drew)).take (MSU.there (.there (.there (.there (.there (.there (.there (.there t)))))))))
 refine callCmp (a:=s.start) (b:=key) (SAt.rd (show Sat _ (MSL c s _)from h'.near) fr.st.2) hrk ?_
 refine ifd (fun hgt=>?_) (fun hle=>?_)
 ·have hka:bcmp kb a<0:=by have:=bcmp_anti kb a;omega
  refine call263 (spec263 (d:={d with isp:=some (c.m.add 4)}) cx hA rfl hf hc fr hsv hic hne h'.near fun s' u' isp' d' e' w hd hbe hz h=>?_)
  exact k _ s' u' isp' d' w h (.inr ⟨_,_,_,a,e',_,rfl,fun R'' w'' h=>hd.rd h,by rw[(zipK_get hd.sv).1,hd.sv.len,<-hl];exact fr.len cx,.inr ⟨hka,hnc kb (le_refl_b kb) hka⟩⟩)
 have hak:bcmp a kb<=0:=by omega
 refine call264 (spec264 (d:={d with isp:=some (c.m.add 4)}) cx hA rfl hf hc fr hsv hic hne h'.near fun r w hD=>?_)
 clear h h'
 refine⟨fun _ w=>DoneB c v bi di R a b svs w,?_,?_⟩
 rotate_left
 ·obtain⟨s,u,d,e,x,hdA,hip,hea,hal,he,hna,hxe,hnc,h'⟩:=hD
  have h:=h'
  unfold WX MSU MSL hp MSR UIL DL at h
  refine⟨_,rfl,Ld1 h ?_⟩
  cases hi:d.isp with
  |some p=>exact ifSome ⟨s,u,d,e,x,hdA,hip,hea,hal,he,hna,hxe,hnc,h'⟩
  |none=>
   refine ifNone ⟨_,rfl,Ld1 h ?_⟩
   refine CallI_run m219Error (call242 (spec242 he h' fun w h'=>?_))
   refine⟨IsI_enc _,?_⟩
   rw[isNilI_enc]
   exact ifn (fun hh=>by cases hh) (fun _=>⟨s,u,d,e,x,hdA,hip,hea,hal,he,hna,hxe,hnc,h'⟩)
 clear hD
 rintro _ w ⟨s,u,d,e,x,hdA,hip,hea,hal,he,hna,hxe,hnc2,h'⟩
 have h:=h'
 unfold WX MSU MSL hp MSR UIL DL at h
 refine⟨_,rfl,Ld1 h ?_⟩
 rw[hip]
 refine ife (fun _=>?_) (fun hh=>(hh rfl).elim)
 refine⟨_,rfl,Ld1 h ?_⟩
 have heb:=bcmp_le_lt (bcmp_trans hea hak) hkb
 have hcv:=hal e (le_refl_b e) heb
 refine CallI_run m219Next (call245 (spec245 cx hna h' ?_ ?_))
 ·intro s' u' w hN hnc3 h
  exact absurd hcv.1 (hnc3 e hxe)
 intro s' a2 b2 sets2 u' w f1 f2 f3 f4 f5 h'
 have hae:a2=e:=by
  have g1: ¬bcmp e a2<0:=fun hlt=>f5 e hxe hlt hcv.1
  have g2: ¬bcmp a2 e<0:=fun hlt=>hnc2 a2 f4 hlt (f3.cv a2 (le_refl_b a2) f3.lt).1
  have:=bcmp_anti a2 e
  exact bcmp_zero om
 subst hae
 obtain⟨svs2,hsv2,hic2⟩:=f3.vis.sv (cx.nd a2)
 have hss:=hic2.unique hcv.2
 subst hss
 clear h
 have h:Sat w (WX c s' v u' bi (some (c.m.add 4)) di d R):=h'
 unfold WX MSU MSL hp MSR UIL DL at h
 refine⟨_,rfl,St1 h rfl fun w h=>?_⟩
 have h':Sat w (WX c s' v u' bi (some (c.m.add 4)) di {d with isp:=some (c.m.add 4)} R):=h
 refine call263 (spec263 (d:={d with isp:=some (c.m.add 4)}) cx hdA rfl f1 f2 f3 hsv2 hic2 hne h' fun s3 u3 isp3 d3 e3 w hd hbe hz h=>?_)
 refine k _ s3 u3 isp3 d3 w h (.inr ⟨_,_,_,a2,e3,_,rfl,fun R'' w'' h=>hd.rd h,by rw[(zipK_get hd.sv).1,hd.sv.len,<-hsv2.len];exact f3.len cx,.inl ⟨bcmp_trans hea hak,hz kb (bcmp_trans hea hak) fun y hy1 hy2=>hal y hy1 (bcmp_le_lt hy2 hkb),?_⟩⟩)
 rw[zipK_sv hd.sv]
 exact(hal kb (bcmp_trans hea hak) hkb).2
end Go.Proofs.YtpkoddfamelnhaaGreatDoor
