/- Part 28 of the proof of fnBatchHistory_card. Conditions: none. -/
import Derived.Test.YtpkoddfamelnhaaGreatDoorH27
set_option linter.unusedVariables false
set_option linter.unusedSimpArgs false
namespace Go.Proofs.YtpkoddfamelnhaaGreatDoor
open Go Go.Tr
set_option maxRecDepth 100000
def keysL (ls:List (List SpanM))(y:ByteArray):List KeyM:=ls.flatMap fun ss=>match covs ss y with|some s=>s.keys|none=>[]
structure LG (ls:List (List SpanM)):Prop where
 k:ls.length<=10
 ok: ∀ss∈ls,SpansOK ss
 n: ∀ss∈ls,ss.length<2^32
 kl: ∀ss∈ls,∀s∈ss,s.keys.length<=1048576
 kt: ∀ss∈ls,∀s∈ss,∀m∈s.keys,0<=m.tr/\m.tr<9223372036854775808/\(m.tr%256=19\/m.tr%256=20\/m.tr%256=21)
 kz: ∀ss∈ls,∀s∈ss,∀m∈s.keys,m.suf.size<2^40/\m.val.size<2^40
 nd: ∀y,((keysL ls y).map (·.tr)).Nodup
def AnsL (ls:List (List SpanM))(sn:Int)(kb:ByteArray)(okk:Bool)(lo hi:ByteArray)(ks:List KeyM):Prop:=
 (okk=false/\ks=[]/\keysL ls kb=[])\/(okk=true/\((bcmp lo kb<=0/\bcmp kb hi<0/\IsC sn (keysL ls kb) (ks.map svOf))\/(bcmp kb lo<0/\keysL ls kb=[])))
theorem keysAt_L {c:MC}{ls:List (List SpanM)}(hk:c.k=ls.length)(hS: ∀i (hi:i<ls.length),(c.S i).spans=ls[i])(y:ByteArray):keysAt c y=keysL ls y:=by
 unfold keysAt keysL
 rw[hk]
 have: ∀n,n<=ls.length->(List.range n).flatMap (fun l=>match covs (c.S l).spans y with|some s=>s.keys|none=>[])=(ls.take n).flatMap fun ss=>match covs ss y with|some s=>s.keys|none=>[]:=by
  intro n
  induction n with
  |zero=>intro _;rfl
  |succ n ih=>
   intro hn
   have hnl:n<ls.length:=by omega
   rw[List.range_succ,List.flatMap_append,ih om,List.take_add_one,List.getElem?_eq_getElem hnl,List.flatMap_append]
   simp[hS n hnl]
 have h:=this ls.length (Nat.le_refl _)
 rwa[List.take_length]at h
theorem covd_L {c:MC}{y:ByteArray}(h: ¬covd c y):keysAt c y=[]:=by
 unfold keysAt
 rw[List.flatMap_eq_nil_iff]
 intro l hl
 cases e:covs (c.S l).spans y with
 |none=>rfl
 |some s=>exact absurd ⟨l,List.mem_range.1 hl,by rw[e];simp⟩ h
def ui70 :List Value:=([.pointer none,.slice none 0 0,.slice none 0 0,.nilIface,.slice none 0 0,.slice none 0 0,.slice none 0 0,.int .i8 (0:Int),.nilIface,.int .i8 (0:Int)]++flat zrow 10++flat (fun _=>[.pointer none,.int .i64 (0:Int)]) 10)
theorem ui70_len :ui70.length=70:=rfl
theorem finUser {D}{n8 q bf sp:Addr}{sn:Int}{S:Nat->LevS}{ls:List (List SpanM)}{it:Sl}{kb:ByteArray}{R w}{K:Sl->WP}(lg:LG ls)(hS: ∀i (hi:i<ls.length),(S i).ok D/\(S i).spans=ls[i])(hit:it.n=ls.length)
  (h:Sat w (Arr n8 [.int .u64 (0:Int),.pointer none,.pointer none,.slice none 0 0,.slice none 0 0,.nilIface,.slice none 0 0,.slice none 0 0,.slice none 0 0,.int .i8 (0:Int),.nilIface,.int .i8 (0:Int),.nilIface,.int .i8 (0:Int),.slice none 0 0,.pointer none,.nilIface,.int .i8 (0:Int),.slice none 0 0,.pointer none,.nilIface,.int .i8 (0:Int),.slice none 0 0,.pointer none,.nilIface,.int .i8 (0:Int),.slice none 0 0,.pointer none,.nilIface,.int .i8 (0:Int),.slice none 0 0,.pointer none,.nilIface,.int .i8 (0:Int),.slice none 0 0,.pointer none,.nilIface,.int .i8 (0:Int),.slice none 0 0,.pointer none,.nilIface,.int .i8 (0:Int),.slice none 0 0,.pointer none,.nilIface,.int .i8 (0:Int),.slice none 0 0,.pointer none,.nilIface,.int .i8 (0:Int),.slice none 0 0,.pointer none,.pointer none,.int .i64 (0:Int),.pointer none,.int .i64 (0:Int),.pointer none,.int .i64 (0:Int),.pointer none,.int .i64 (0:Int),.pointer none,.int .i64 (0:Int),.pointer none,.int .i64 (0:Int),.pointer none,.int .i64 (0:Int),.pointer none,.int .i64 (0:Int),.pointer none,.int .i64 (0:Int),.pointer none,.int .i64 (0:Int),.nilIface,.pointer none,.nilFunc,.nilFunc,.slice none 0 0,.slice none 0 0,.pointer none,.pointer none,.int .i8 (0:Int),.pointer none,.pointer none,.nilFunc,.nilIface,.pointer none,.int .i8 (0:Int),.slice none 0 0,.slice none 0 0,.slice none 0 0,.int .i8 (0:Int),.nilIface,.nilFunc,.bool false,.pointer none]::Arr q cmpCs::Arr bf [.slice none 0 0,.slice none 0 0,.nilFunc,.bool false,.slice none 0 0,.slice none 0 0,.slice none 0 0,.slice none 0 0,.slice none 0 0,.nilFunc,.slice none 0 0]::Own D::Buf 1 it (itVs S ls.length)::Fam ls.length (itF S)::Arr sp [.int .u8 4,.string kb]::R))
  (k: ∀out okk lo hi kx ks w',AnsL ls sn kb okk lo hi ks->out.n=1->kx.n=ks.length->ks.length<2^32->Sat w' (Buf 5 out [.bool true,.bool okk,.string lo,.string hi,.slice kx.a kx.n kx.c]::Buf 3 kx (ks.flatMap pkc)::Arr sp [.int .u8 4,.string kb]::R)->K out w'):
  CallF Tryz.prog 33 [.pointer (some n8),.pointer (some q),.int .u64 sn,.slice none 0 0,.slice none 0 0,.pointer none,.pointer none,.bool false,.pointer (some bf),.slice it.a it.n it.c] [(.one .ifc)] (fun(r16:IV) w=>CallF Tryz.prog 32 [(IV.enc r16),.slice (some sp) 1 1] [(.one .sl)] (fun(r17:Sl) w=>K r17 w) w) w:=by
 obtain⟨G,g,hg,l1,l2,h1⟩:=Sat.absorb (c:=Arr q cmpCs) ((h.mv 1).mv 3)
 have hG: ∀i v,cmpCs[i]? =some v->DAt G (q.add i) v:=fun i v e=>⟨false,l2 _ _ (hg.1 i v e)⟩
 have h2:Sat w (Arr n8 (List.flatten [[.int .u64 (0:Int),.pointer none],ui70,[.nilIface,.pointer none,.nilFunc,.nilFunc,.slice none 0 0,.slice none 0 0,.pointer none,.pointer none,.int .i8 (0:Int)],[.pointer none,.pointer none,.nilFunc,.nilIface,.pointer none,.int .i8 (0:Int),.slice none 0 0,.slice none 0 0,.slice none 0 0,.int .i8 (0:Int),.nilIface,.nilFunc],[.bool false],[.pointer none]])::Own G::Arr bf (List.flatten [[.slice none 0 0,.slice none 0 0],[.nilFunc,.bool false,.slice none 0 0],[.slice none 0 0],[.slice none 0 0,.slice none 0 0,.slice none 0 0],[.nilFunc,.slice none 0 0]])::Buf 1 it (itVs S ls.length)::Fam ls.length (itF S)::Arr sp [.int .u8 4,.string kb]::R):=h1.mv 1
 have h3:=(Sat.splits _ h2)
 have h4:Sat w (Arr bf (List.flatten [[.slice none 0 0,.slice none 0 0],[.nilFunc,.bool false,.slice none 0 0],[.slice none 0 0],[.slice none 0 0,.slice none 0 0,.slice none 0 0],[.nilFunc,.slice none 0 0]])::Arr n8 [.int .u64 (0:Int),.pointer none]::Arr (n8.add 2) ui70::Arr (n8.add 72) [.nilIface,.pointer none,.nilFunc,.nilFunc,.slice none 0 0,.slice none 0 0,.pointer none,.pointer none,.int .i8 (0:Int)]::Arr (n8.add 81) [.pointer none,.pointer none,.nilFunc,.nilIface,.pointer none,.int .i8 (0:Int),.slice none 0 0,.slice none 0 0,.slice none 0 0,.int .i8 (0:Int),.nilIface,.nilFunc]::Arr (n8.add 93) [.bool false]::Arr (n8.add 94) [.pointer none]::Own G::Buf 1 it (itVs S ls.length)::Fam ls.length (itF S)::Arr sp [.int .u8 4,.string kb]::R):=h3.mv 7
 have h5:Sat w (Arr bf [.slice none 0 0,.slice none 0 0]::Arr (bf.add 2) [.nilFunc,.bool false,.slice none 0 0]::Arr (bf.add 5) [.slice none 0 0]::Arr (bf.add 6) [.slice none 0 0,.slice none 0 0,.slice none 0 0]::Arr (bf.add 9) [.nilFunc,.slice none 0 0]::
   Arr n8 [.int .u64 (0:Int),.pointer none]::Arr (n8.add 2) ui70::Arr (n8.add 72) [.nilIface,.pointer none,.nilFunc,.nilFunc,.slice none 0 0,.slice none 0 0,.pointer none,.pointer none,.int .i8 (0:Int)]::Arr (n8.add 81) [.pointer none,.pointer none,.nilFunc,.nilIface,.pointer none,.int .i8 (0:Int),.slice none 0 0,.slice none 0 0,.slice none 0 0,.int .i8 (0:Int),.nilIface,.nilFunc]::Arr (n8.add 93) [.bool false]::Arr (n8.add 94) [.pointer none]::Own G::Buf 1 it (itVs S ls.length)::Fam ls.length (itF S)::Arr sp [.int .u8 4,.string kb]::R):=Sat.splits _ h4
 have hS2: ∀i (hi:i<ls.length),(S i).ok G:=fun i hi=>(hS i hi).1.mono l1
 have hsp: ∀i (hi:i<ls.length),(S i).spans=ls[i]:=fun i hi=>(hS i hi).2
 refine call33 (lower_4:=nl) (upper_5:=nl) (iters10:=it) (spec33 (R:=Arr sp [.int .u8 4,.string kb]::R) (S:=S) (n:=ls.length) ui70_len rfl rfl lg.k hit (hG 0 _ rfl) (hG 1 _ rfl) (hG 5 _ rfl) ((((((((((((((h5.mv 11).mv 13).mv 13).mv 7).mv 7).mv 7).mv 7).mv 7).mv 13).mv 13).mv 13).mv 13).mv 13).mv 13) fun w h=>?_)
 have hkL: ∀y,keysAt (mc0 G (n8.add 2) bf n8 ls.length S) y=keysL ls y:=keysAt_L rfl hsp
 have cx:CtxOK (mc0 G (n8.add 2) bf n8 ls.length S) ⟨n8,bf,q,sn⟩:=by
  refine⟨⟨lg.k,fun l hl=>hS2 l hl⟩,fun l hl=>?_,fun l hl x hx=>?_,hG 1 _ rfl,rfl,fun l hl x hx m hm=>?_,fun y=>by rw[hkL];exact lg.nd y⟩
  ·show SpansOK (S l).spans
   rw[hsp l hl];exact lg.ok _ (List.getElem_mem hl)
  ·replace hx:x∈(S l).spans:=hx
   rw[hsp l hl]at hx
   exact⟨lg.kl _ (List.getElem_mem hl) x hx,lg.kt _ (List.getElem_mem hl) x hx⟩
  ·replace hx:x∈(S l).spans:=hx
   rw[hsp l hl]at hx
   exact lg.kz _ (List.getElem_mem hl) x hx m hm
 refine call32 (steps2:=⟨some sp,1,1⟩) (spec32 (kb:=kb) cx (hG 0 _ rfl) h fun out okk lo hi kx ks w ha ho hk hl h=>k out okk lo hi kx ks w ?_ ho hk hl h)
 rcases ha with⟨h1,h2,h3⟩|⟨h1,h2⟩
 ·exact .inl ⟨h1,h2,by rw[<-hkL];exact covd_L h3⟩
 ·refine .inr ⟨h1,?_⟩
  rcases h2 with⟨g1,g2,g3⟩|⟨g1,g2⟩
  ·exact .inl ⟨g1,g2,by rw[<-hkL];exact g3⟩
  ·exact .inr ⟨g1,by rw[<-hkL];exact covd_L g2⟩
theorem spec34 {L w}{K:Sl->WP}(h:Sat w L)(k: ∀w',Sat w' L->K nl w'):F34 (.empty,false) K w:=by
 unfold F34
 exact NewP_run h fun p w h=>Ld1 h (ifn (fun _=>k w h.tail) fun hh=>by cases hh)
theorem spec13 {levels:Sl}{zs:Nat->Sl}{ys:Nat->Nat->Sl}{ls:List (List SpanM)}{sp:Addr}{kb:ByteArray}{sn:Int}{R w}{K:Sl->WP}(lg:LG ls)(hrd: ∀w,Sat w R->PLevRd w levels zs ys ls)(h:Sat w (Arr sp [.int .u8 4,.string kb]::R))
  (k: ∀out okk lo hi kx ks w',AnsL ls sn kb okk lo hi ks->out.n=1->kx.n=ks.length->ks.length<2^32->Sat w' (Buf 5 out [.bool true,.bool okk,.string lo,.string hi,.slice kx.a kx.n kx.c]::Buf 3 kx (ks.flatMap pkc)::Arr sp [.int .u8 4,.string kb]::R)->K out w'):
  F13 levels sn (.empty,false) (.empty,false) ⟨some sp,1,1⟩ K w:=by
 have hk:=lg.k
 have hss: ∀ss∈ls,ss.length<2^32/\ ∀s∈ss,s.keys.length<2^32:=fun ss h=>⟨lg.n ss h,fun s hs=>by have:=lg.kl ss h s hs;omega⟩
 unfold F13
 refine NewP_run h fun n6 w h=>NewP_run h fun n7 w h=>NewP_run h fun n8 w h=>?_
 refine LdN h (LdN h ?_)
 replace h:=h.near (w':=w.drew)
 refine⟨?_,?_⟩
 ·refine call24 (spec24 h fun q w h=>?_)
  refine⟨LdAtN h,LdAtN h,?_,?_⟩
  ·refine call34 (b1:=(.empty,false)) (spec34 h fun w h=>?_)
   refine⟨LdAtN h,?_,?_⟩
   ·refine call34 (b1:=(.empty,false)) (spec34 h fun w h=>?_)
    refine⟨?_,?_⟩
    ·refine NewP_run h fun bf w h=>?_
     refine call35 (levels1:=levels) (spec35 (D:=fun _=>none) (by intro w h;exact hrd w (Sat.drop 6 h)) om hss (SatU.nil rfl h) fun D S it w hD hS hit h=>?_)
     exact finUser lg hS hit ((((((((((h.mv 8).mv 3).mv 3).mv 3).mv 4).mv 5).mv 6).mv 8).mv 8)).tail2 k
    ·refine call35 (levels1:=levels) (spec35 (D:=fun _=>none) (by intro w h;exact hrd w (Sat.drop 5 h)) om hss (SatU.nil rfl h) fun D S it w hD hS hit h=>?_)
     refine NewP_run h fun bf w h=>?_
     exact finUser lg hS hit ((((((((((h.mv 8).mv 4).mv 4).mv 4).mv 4).mv 5).mv 6).mv 8).mv 8)).tail2 k
   ·refine NewP_run h fun bf w h=>?_
    refine⟨LdAtN h,?_⟩
    refine call34 (b1:=(.empty,false)) (spec34 h fun w h=>?_)
    refine call35 (levels1:=levels) (spec35 (D:=fun _=>none) (by intro w h;exact hrd w (Sat.drop 6 h)) om hss (SatU.nil rfl h) fun D S it w hD hS hit h=>?_)
    exact finUser lg hS hit ((((((((((h.mv 8).mv 3).mv 3).mv 3).mv 4).mv 5).mv 6).mv 8).mv 8)).tail2 k
  ·refine NewP_run h fun bf w h=>?_
   refine⟨LdAtN h,LdAtN h,?_⟩
   refine call34 (b1:=(.empty,false)) (spec34 h fun w h=>?_)
   refine⟨LdAtN h,?_⟩
   refine call34 (b1:=(.empty,false)) (spec34 h fun w h=>?_)
   refine call35 (levels1:=levels) (spec35 (D:=fun _=>none) (by intro w h;exact hrd w (Sat.drop 6 h)) om hss (SatU.nil rfl h) fun D S it w hD hS hit h=>?_)
   exact finUser lg hS hit ((((((((((h.mv 8).mv 3).mv 3).mv 3).mv 4).mv 5).mv 6).mv 8).mv 8)).tail2 k
 ·refine NewP_run h fun bf w h=>?_
  refine⟨LdAtN h,LdAtN h,?_⟩
  refine call24 (spec24 h fun q w h=>?_)
  refine⟨LdAtN h,LdAtN h,?_⟩
  refine call34 (b1:=(.empty,false)) (spec34 h fun w h=>?_)
  refine⟨LdAtN h,?_⟩
  refine call34 (b1:=(.empty,false)) (spec34 h fun w h=>?_)
  refine call35 (levels1:=levels) (spec35 (D:=fun _=>none) (by intro w h;exact hrd w (Sat.drop 6 h)) om hss (SatU.nil rfl h) fun D S it w hD hS hit h=>?_)
  exact finUser lg hS hit ((((((((((h.mv 8).mv 3).mv 3).mv 3).mv 5).mv 5).mv 6).mv 8).mv 8)).tail2 k
theorem PSp.rd {out:Sl}{ps:List PlM}{L w}(h:Sat w (PSp out ps::L)):PSpansRd w out (fun j=>(ps.getD j pld).kx) (ps.map PlM.sp):=by
 obtain⟨h1,h2,h3⟩:=pspOpen h
 refine⟨by rw[List.length_map];exact h1,fun j hj=>?_⟩
 rw[List.length_map]at hj
 have hx:ps[j]? =some ps[j]:=List.getElem?_eq_getElem hj
 have hg:ps.getD j pld=ps[j]:=by rw[List.getD_eq_getElem?_getD,hx];rfl
 rw[List.getElem_map]
 dsimp only
 have hkn:=h2 _ (List.getElem_mem hj)
 have h4:=(h3.mv 1).fam_out hj
 unfold plF at h4
 rw[hg]at h4|-
 generalize ps[j]=x at hx hkn h4
 obtain⟨a,ha,hr⟩:=rowBuf (f:=plc) (k:=3) (fun _=>rfl) (by decide) h3 .here hx
 refine⟨a,ha,hr,hkn,fun i hi=>?_⟩
 have hm:x.keys[i]? =some x.keys[i]:=List.getElem?_eq_getElem hi
 exact rowBuf (f:=pkc) (k:=3) (fun _=>rfl) (by decide) h4 .here hm
theorem spec37 {p:Addr}{x:SpC}{s:SpanM}{key:Sl}{kb:ByteArray}{D L R R' w}{K:Bool->WP}(hx:SpRel D x s)(hk:RdB w key.a key.n kb)(h:Sat w L)(t:Take L (Own D) R)(t2:Take L (Arr p (spc x)) R')(k: ∀b,b=decide (bcmp s.lo kb<=0/\bcmp kb s.hi<0)->K b w):F37 (some p) (.mk (.func 45) #[] #[]) key K w:=by
 unfold F37
 have hr:=h.rdL t2
 refine⟨_,rfl,LdC (v:=.slice x.lo.a x.lo.n x.lo.c) (hr 0 _ rfl) ?_⟩
 refine callCmp (h.rdB t hx.1.1) hk (ifd (fun h1=>?_) (fun h1=>k _ (decide_eq_false (fun h9=>h1 h9.1)).symm))
 refine⟨_,rfl,LdC (v:=.slice x.hi.a x.hi.n x.hi.c) (hr 1 _ rfl) (callCmp hk (h.rdB t hx.2.1.1) (k _ ?_))⟩
 rw[Bool.eq_iff_iff,decide_eq_true_eq,decide_eq_true_eq]
 exact⟨fun h=>⟨h1,h⟩,fun h=>h.2⟩
theorem spec14 {s:SpanM}{y:Sl}{kb:ByteArray}{R w}{K:Bool->WP}(hrd: ∀w,Sat w R->PKeysRd w y s.keys)(hlen:s.keys.length<2^32)(h:Sat w R)(k: ∀b w',b=decide (bcmp s.lo kb<=0/\bcmp kb s.hi<0)->Sat w' R->K b w'):F14 (s.lo,s.hi,y) kb K w:=by
 unfold F14
 refine NewP_run h fun n3 w h=>LdN h ?_
 have h0:Sat w (Own (fun _=>none)::Arr n3 [.string s.lo,.string s.hi,.slice y.a y.n y.c]::R):=SatU.nil rfl h
 refine call36 (s1:=(s.lo,s.hi,y)) (spec36 (s:=s) (R:=Arr n3 [.string s.lo,.string s.hi,.slice y.a y.n y.c]::R) (fun w h=>hrd w h.tail) hlen h0 fun D x w _ hx h=>?_)
 refine NewP_run h fun n6 w h=>StL_of (St1 h rfl fun w h=>St1 h rfl fun w h=>St1 h rfl fun w h=>St1 h rfl fun w h=>?_)
 simp only[StC]
 refine call24 (spec24 h fun q w h=>?_)
 have hq:=h
 unfold cmpCs at hq
 refine⟨_,rfl,Ld1 hq ?_⟩
 clear hq
 refine BytesP_run h fun p c w hc h=>?_
 have hkey:RdB w (some p) kb.size kb:=⟨rfl,(h.rdL .here).left⟩
 exact call37 (spec37 (key:=⟨some p,kb.size,c⟩) hx hkey h .k3 .k2 fun b hb=>k b w hb (Sat.drop 5 h))
theorem spec11 {R w}{K:Bool->WP}(h:Sat w R)(k: ∀w',Sat w' R->K true w'):F11 K w:=by
 unfold F11
 refine NewS_run h fun p w h=>?_
 have hops:OpsIn (Arr p [.int .u8 (1:Int),.string ⟨#[97]⟩,.string ⟨#[118]⟩,.string .empty,.string .empty,.int .u32 (0:Int)]::R) ⟨some p,1,1⟩ [⟨1,⟨#[97]⟩,⟨#[118]⟩,.empty,.empty,0⟩]:=by
  refine⟨rfl,fun w h j o e=>⟨p,rfl,?_⟩⟩
  cases j with
  |zero=>
   simp only[List.getElem?_cons_zero,Option.some.injEq]at e
   subst e
   exact h.rdL .here
  |succ j=>simp at e
 refine call9 (ops1:=⟨some p,1,1⟩) (spec9 (fun o ho=>?_) (by decide) (by simp) hops h fun pts dl rg ps w hn _ h=>?_)
 ·rw[List.mem_singleton.1 ho]
  exact⟨.inr (.inl rfl),by decide,by decide,by decide,by decide,by decide⟩
 ·refine ifb (fun _=>?_) (fun hh=>nomatch hh)
  have:pts.n=1:=hn
  rw[this]
  exact k w h.tail.tail
theorem RngOK.lg {l:List OpM}{ss:List SpanM}(hl: ∀o∈l,OpOK o)(hn:l.length<=512)(h:RngOK l ss):LG [ss]:=by
 have hk:=h.key
 refine⟨show 1<=10 by decide,fun s hs=>?_,fun s hs=>?_,fun s hs x hx=>?_,fun s hs x hx m hm=>?_,fun s hs x hx m hm=>?_,fun y=>?_⟩
 ·rw[List.mem_singleton.1 hs];exact h.ok
 ·rw[List.mem_singleton.1 hs];exact sq512 hn h.n
 ·rw[List.mem_singleton.1 hs]at hx
  rw[(hk x hx).length_eq,List.length_map]
  have:=entIn_len x.lo l
  omega
 ·rw[List.mem_singleton.1 hs]at hx
  have:=(eKey_props hl hn m ((hk x hx).mem_iff.1 hm)).1
  omega
 ·rw[List.mem_singleton.1 hs]at hx
  exact(eKey_props hl hn m ((hk x hx).mem_iff.1 hm)).2
 ·have e:keysL [ss] y=keysOf ss y:=by unfold keysL keysOf;rw[List.flatMap_cons,List.flatMap_nil,List.append_nil];rfl
  rw[e]
  exact((h.at y).map _).nodup_iff.2 ((List.pairwise_map.1 (List.pairwise_map.2 ((entIn_tr hl).imp fun h=>Int.ne_of_lt h)))|>fun h=>List.pairwise_map.2 h)
def gotOf (okk:Bool)(lo hi kb:ByteArray)(ks:List KeyM):List SV:=if okk=true/\bcmp lo kb<=0/\bcmp kb hi<0 then ks.map svOf else []
theorem AnsL.got {ls:List (List SpanM)}{sn:Int}{kb lo hi:ByteArray}{okk:Bool}{ks:List KeyM}(h:AnsL ls sn kb okk lo hi ks):IsC sn (keysL ls kb) (gotOf okk lo hi kb ks):=by
 unfold gotOf
 rcases h with⟨rfl,rfl,h⟩|⟨rfl,⟨h1,h2,h3⟩|⟨h1,h2⟩⟩
 ·rw[if_neg (by simp),h];exact IsC.nil
 ·rw[if_pos ⟨rfl,h1,h2⟩];exact h3
 ·have:=bcmp_anti lo kb
  rw[if_neg om,h2];exact IsC.nil
theorem pkeysRd {kx:Sl}{ks:List KeyM}{L R w}(hn:kx.n=ks.length)(h:Sat w L)(t:Take L (Buf 3 kx (ks.flatMap pkc)) R):PKeysRd w kx ks:=
 ⟨hn,fun j hj=>rowBuf (f:=pkc) (k:=3) (fun _=>rfl) (by decide) h t (List.getElem?_eq_getElem hj)⟩
theorem OpMost.ok {o:OpM}(h:OpMost o)(hr:OpRng o)(hs:o.size<2^32):OpOK o:=by
 refine⟨?_,h.key,h.val,h.end_,h.suf,hs⟩
 have h1:=h.kind
 have h2:=hr.2
 unfold AllKind at h1
 unfold OpKind
 omega
theorem ifne' {a b:Int}{A B:Prop}(e:a=b)(y:B):if(a !=b)=true then A else B:=by rw[if_neg (by simpa using e)];exact y
end Go.Proofs.YtpkoddfamelnhaaGreatDoor
