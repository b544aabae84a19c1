/- Part 22 of the proof of fnBatchHistory_card. Conditions: none. -/
import Derived.Test.YtpkoddfamelnhaaGreatDoorH21
set_option linter.unusedVariables false
set_option linter.unusedSimpArgs false
namespace Go.Proofs.YtpkoddfamelnhaaGreatDoor
open Go Go.Tr
set_option maxRecDepth 100000
theorem spec148 {n:Nat}{w}{K:Int->WP}(hn:n<2^32)(k:K ((vi n).length:Int) w):F148 (n:Int) K w:=by
 unfold F148
 have e0:IntKind.u32.wrap (n:Int)=(n:Int):=wu32 om om
 rw[e0]
 refine⟨fun m (z:Int×Int) w'=> ∃(d x:Nat),z=(((d+1:Nat):Int),(x:Int))/\(vi n).length=d+(vi x).length/\x<2^32/\d+x<=n/\m=x/\w'=w,⟨_,0,n,rfl,by omega,hn,by omega,rfl,rfl⟩,?_⟩
 rintro m z w' ⟨d,x,rfl,hl,hx,hdx,hm,rfl⟩
 dsimp only
 refine ifd (fun hge=>?_) (fun hlt=>?_)
 ·refine⟨by omega,?_⟩
  rw[fdiv7 (by decide),w1 om]
  refine⟨x/128,by omega,d+1,x/128,rfl,?_,by omega,by omega,rfl,rfl⟩
  rw[hl,vi_ge (n:=x) om,List.length_cons];omega
 ·rw[vi_lt (n:=x) om]at hl
  rw[hl]at k
  exact k
theorem spec149 {cc:Nat}{n6:Addr}{suf:Sl}{w:World}{K:Int->WP}(hz:suf.n<2^28)(hc:w.cell? n6=some (.slice suf.a suf.n suf.c))(k:K (((vi suf.n).length+suf.n:Nat):Int) w):F149 ⟨some n6,1,cc⟩ K w:=by
 have hv:=vi_len4 hz
 unfold F149
 refine⟨fun m (z:Int×Int) w'=>w'=w/\(z=(0,0)/\m=1\/z=((((vi suf.n).length+suf.n:Nat):Int),1)/\m=0),⟨_,rfl,.inl ⟨rfl,rfl⟩⟩,?_⟩
 rintro m z w' ⟨rfl,⟨rfl,hm⟩|⟨rfl,hm⟩⟩
 ·refine ifd (fun _=>?_) (fun hh=>absurd (show(0:Int)<1 by omega) hh)
  refine⟨⟨Int.le_refl 0,show(0:Int)<1 by omega⟩,n6,rfl,?_⟩
  show Ld (.one .sl) n6 _ _
  refine LdC hc (call148 (spec148 (n:=suf.n) om ⟨⟨Int.le_refl 0,show(0:Int)<1 by omega⟩,n6,rfl,?_⟩))
  show Ld (.one .sl) n6 _ _
  refine LdC hc ⟨0,by omega,rfl,.inr ⟨?_,rfl⟩⟩
  dsimp only
  congr 1
  rw[wi64 (x:=0+((vi suf.n).length:Int)) om om,wi64 om om];omega
 ·exact ifd (fun hh=>absurd hh (show¬(1:Int)<1 by omega)) (fun _=>k)
theorem spec152 {cc:Nat}{n7:Addr}{suf val:Sl}{w:World}{K:Int->WP}(hz:suf.n<2^28)(hvz:val.n<2^28)(hc:w.cell? (n7.add 0)=some (.slice suf.a suf.n suf.c))(hc2:w.cell? (n7.add 1)=some (.slice val.a val.n val.c))
  (k:K (((vi suf.n).length+suf.n+(vi val.n).length+val.n:Nat):Int) w):F152 ⟨some n7,1,cc⟩ K w:=by
 have hv:=vi_len4 hz
 have hw:=vi_len4 hvz
 unfold F152
 refine⟨fun m (z:Int×Int) w'=>w'=w/\(z=(0,0)/\m=1\/z=((((vi suf.n).length+suf.n+(vi val.n).length+val.n:Nat):Int),1)/\m=0),⟨_,rfl,.inl ⟨rfl,rfl⟩⟩,?_⟩
 rintro m z w' ⟨rfl,⟨rfl,hm⟩|⟨rfl,hm⟩⟩
 ·refine ifd (fun _=>?_) (fun hh=>absurd (show(0:Int)<1 by omega) hh)
  refine⟨⟨Int.le_refl 0,show(0:Int)<1 by omega⟩,n7,rfl,?_⟩
  show Ld (.one .sl) (n7.add 0) _ _
  refine LdC hc (call148 (spec148 (n:=suf.n) om ⟨⟨Int.le_refl 0,show(0:Int)<1 by omega⟩,n7,rfl,?_⟩))
  show Ld (.one .sl) (n7.add 0) _ _
  refine LdC hc ⟨⟨Int.le_refl 0,show(0:Int)<1 by omega⟩,n7,rfl,?_⟩
  show Ld (.one .sl) (n7.add 1) _ _
  refine LdC hc2 (call148 (spec148 (n:=val.n) om ⟨⟨Int.le_refl 0,show(0:Int)<1 by omega⟩,n7,rfl,?_⟩))
  show Ld (.one .sl) (n7.add 1) _ _
  refine LdC hc2 ⟨0,by omega,rfl,.inr ⟨?_,rfl⟩⟩
  dsimp only
  congr 1
  rw[wi64 (x:=0+((vi suf.n).length:Int)) om om,wi64 (x:=0+((vi suf.n).length:Int)+suf.n) om om,wi64 (x:=0+((vi suf.n).length:Int)+suf.n+(vi val.n).length) om om,wi64 om om];omega
 ·exact ifd (fun hh=>absurd hh (show¬(1:Int)<1 by omega)) (fun _=>k)
theorem spec150 {a:Addr}{buf:Sl}{pre sp:List Value}{x:Nat}{L w}{K:Int->WP}(hb:buf.a=some (a.add pre.length))(hn:(vi x).length<=buf.n)(hsp:(vi x).length<=sp.length)(hbn:buf.n<2^40)(h:Sat w (Arr a (pre++sp)::L))
  (k: ∀w',Sat w' (Arr a (pre++(nb (vi x)++sp.drop (vi x).length))::L)->K ((vi x).length:Int) w'):F150 buf (x:Int) K w:=by
 unfold F150
 refine⟨fun m (z:Int×Int) w=> ∃(done:List Nat) (y:Nat),z=((y:Int),(done.length:Int))/\vi x=done++vi y/\m=y/\Sat w (Arr a ((pre++nb done)++sp.drop done.length)::L),⟨_,[],x,rfl,rfl,rfl,by rw[show pre++nb []=pre from List.append_nil _];exact h⟩,?_⟩
 clear h
 rintro m z w ⟨done,y,rfl,hv,hm,h⟩
 have hl:(vi x).length=done.length+(vi y).length:=by rw[hv,List.length_append]
 have hp:=vi_pos y
 have hd:sp.drop done.length=sp[done.length]'om::sp.drop (done.length+1):=drop_cons om
 have hpl:(pre++nb done).length=pre.length+done.length:=by rw[List.length_append,nb_len]
 have ea:(a.add pre.length).add (done.length*1)=a.add ((pre.length+done.length)*1):=by rw[Addr.add_add];congr 1;omega
 rw[hd]at h
 dsimp only
 rw[Int.toNat_natCast]
 refine ifd (fun hge=>?_) (fun hlt=>?_)
 ·refine⟨⟨by omega,by omega⟩,_,hb,?_⟩
  rw[vi_or,fdiv7 (by decide),w1 om,ea]
  refine arrSt h hpl.symm rfl fun w h=>⟨by omega,y/128,by omega,done++[y%128+128],y/128,?_,?_,rfl,?_⟩
  ·rw[List.length_append,List.length_singleton]
  ·rw[hv,vi_ge (n:=y) om,List.append_assoc];rfl
  ·have e:(pre++nb (done++[y%128+128]))++sp.drop (done++[y%128+128]).length=(pre++nb done)++ .int .u8 ((y%128+128:Nat):Int)::sp.drop (done.length+1):=by
    rw[nb_app,<-List.append_assoc,List.length_append,List.append_assoc];rfl
   rw[e]
   exact h
 ·have hvx:=vi_lt (n:=y) om
  have hl1:(vi x).length=done.length+1:=by rw[hl,hvx];rfl
  refine⟨⟨by omega,by omega⟩,_,hb,?_⟩
  rw[wu8 (x:=(y:Int)) om om,w1 om,ea]
  refine arrSt h hpl.symm rfl fun w h=>?_
  rw[<-hl1]
  refine k w ?_
  have e:pre++(nb (vi x)++sp.drop (vi x).length)=(pre++nb done)++ .int .u8 ((y:Nat):Int)::sp.drop (done.length+1):=by
   rw[hl1,hv,hvx,nb_app,List.append_assoc,List.append_assoc];rfl
  rw[e]
  exact h
theorem CopyP_zero {d x:Sl}{w}{K:Int->WP}(hx:x.n=0)(k:K 0 w):CopyP si87 d x K w:=by
 have e:Nat.min x.n d.n=0:=by rw[hx];exact Nat.zero_min _
 refine⟨[],?_,?_,?_⟩
 ·rw[e]
  cases x.a with
  |none=>rfl
  |some a=>exact⟨rfl,fun j v ev=>by simp at ev⟩
 ·cases d.a with
  |none=>trivial
  |some a=>exact fun j v ev=>by simp at ev
 ·rw[e]
  cases d.a with
  |none=>exact k
  |some a=>exact k
theorem putB {a:Addr}{dst:Sl}{p0 r:Nat}{pre sp:List Value}{e:ByteArray}{key:Sl}{L w}{K:Int->WP}(hb:dst.a=some (a.add p0))(hp:pre.length=p0+r)(hj:e.size<=sp.length)(hn:r+e.size<=dst.n)(hc:dst.n<=dst.c)(hk:key.n=e.size)
  (hr:RdB w key.a key.n e) (h:Sat w (Arr a (pre++sp)::L))
  (k: ∀w',Sat w' (Arr a ((pre++nb (bl e))++sp.drop e.size)::L)->K (e.size:Int) w'):CopyP si87 ⟨(sub dst.a 1 r dst.n dst.c).a,(dst.n-r),(dst.c-r)⟩ key K w:=by
 by_cases hz:e.size=0
 ·have hbl:bl e=[]:=List.length_eq_zero_iff.1 (by rw[bl_len];exact hz)
  refine CopyP_zero (by rw[hk];exact hz) (by have h3:=k w (by rw[hbl,hz];show Sat w (Arr a ((pre++[])++sp.drop 0)::L);rw[List.append_nil];exact h);rw[hz]at h3;exact h3)
 rw[hb,subA om,Addr.add_add,<-hp]
 have e1:sp=sp.take e.size++sp.drop e.size:=(List.take_append_drop _ _).symm
 rw[e1]at h
 rw[<-hk]at k
 refine arrCopy (s:=si87) (x:=key) (new:=nb (bl e)) h (fun _=>rfl) (by rw[List.length_take,nb_len,bl_len];omega) (by dsimp only;omega) (by rw[nb_len,bl_len,hk];exact(Nat.mul_one _).symm) (by rw[<-bytesOf_bl];exact hr.rdS) (nb_one _) fun w h=>k w ?_
 rw[hk,List.append_assoc]
 exact h
theorem putV {a:Addr}{dst:Sl}{p0 r:Nat}{pre sp:List Value}{x:Nat}{L w}{K:Int->WP}(hb:dst.a=some (a.add p0))(hp:pre.length=p0+r)(hj:(vi x).length<=sp.length)(hn:r+(vi x).length<=dst.n)(hc:dst.n<=dst.c)(hdn:dst.n<2^40)(hx:x<2^32)(h:Sat w (Arr a (pre++sp)::L))
  (k: ∀w',Sat w' (Arr a ((pre++nb (vi x))++sp.drop (vi x).length)::L)->K ((vi x).length:Int) w'):
  CallF Tryz.prog 150 [.slice (sub dst.a 1 r dst.n dst.c).a (dst.n-r) (dst.c-r),.int .u64 (IntKind.u64.wrap (x:Int))] [(.one (.int .i64))] K w:=by
 have hvp:=vi_pos x
 rw[wu64 om om]
 refine call150 (buf1:=⟨(sub dst.a 1 r dst.n dst.c).a,dst.n-r,dst.c-r⟩) (spec150 (a:=a) (pre:=pre) (sp:=sp) ?_ (by dsimp only;omega) hj (by dsimp only;omega) h fun w h=>k w ?_)
 ·rw[hb,subA om,Addr.add_add,<-hp]
 ·rw[List.append_assoc];exact h
theorem putV0 {a:Addr}{dst:Sl}{pre sp:List Value}{x:Nat}{L w}{K:Int->WP}(hb:dst.a=some (a.add pre.length))(hj:(vi x).length<=sp.length)(hn:(vi x).length<=dst.n)(hdn:dst.n<2^40)(hx:x<2^32)(h:Sat w (Arr a (pre++sp)::L))
  (k: ∀w',Sat w' (Arr a ((pre++nb (vi x))++sp.drop (vi x).length)::L)->K ((vi x).length:Int) w'):
  CallF Tryz.prog 150 [.slice dst.a dst.n dst.c,.int .u64 (IntKind.u64.wrap (x:Int))] [(.one (.int .i64))] K w:=by
 rw[wu64 om om]
 refine call150 (spec150 (a:=a) (pre:=pre) (sp:=sp) hb hn hj hdn h fun w h=>k w ?_)
 rw[List.append_assoc];exact h
def vb (e:ByteArray):List Nat:=vi e.size++bl e
theorem vb_len (e:ByteArray):(vb e).length=(vi e.size).length+e.size:=by unfold vb;rw[List.length_append,bl_len]
theorem wi2 {a b:Nat}(h:a+b<2^60):IntKind.i64.wrap ((a:Int)+(b:Int))=((a+b:Nat):Int):=by rw[wi64 om om];omega
theorem wi02 {b:Nat}(h:b<2^60):IntKind.i64.wrap ((0:Int)+(b:Int))=(b:Int):=by rw[wi64 om om];omega
theorem spec151 {cc:Nat}{a n6:Addr}{dst suf:Sl}{pre sp:List Value}{sb:ByteArray}{L}{w:World}{K:Int->WP}(hb:dst.a=some (a.add pre.length))(hj:(vb sb).length<=sp.length)(hn:(vb sb).length<=dst.n)(hc:dst.n<=dst.c)(hdn:dst.n<2^40)(hz:sb.size<2^28)(hk:suf.n=sb.size)
  (hr: ∀w,Sat w L->RdB w suf.a suf.n sb) (hcell: ∀w,Sat w L->w.cell? n6=some (.slice suf.a suf.n suf.c)) (h:Sat w (Arr a (pre++sp)::L))
  (k: ∀w',Sat w' (Arr a ((pre++nb (vb sb))++sp.drop (vb sb).length)::L)->K ((vb sb).length:Int) w'):F151 dst ⟨some n6,1,cc⟩ K w:=by
 have hl:=vb_len sb
 unfold F151
 refine⟨fun m (z:Int×Int) w=>z=(0,0)/\m=1/\Sat w (Arr a (pre++sp)::L)\/z=(((vb sb).length:Int),1)/\m=0/\Sat w (Arr a ((pre++nb (vb sb))++sp.drop (vb sb).length)::L),⟨_,.inl ⟨rfl,rfl,h⟩⟩,?_⟩
 clear h
 rintro m z w (⟨rfl,hm,h⟩|⟨rfl,hm,h⟩)
 ·refine ifd (fun _=>?_) (fun hh=>absurd (show(0:Int)<1 by omega) hh)
  refine⟨⟨Int.le_refl 0,by dsimp only;omega⟩,⟨Int.le_refl 0,show(0:Int)<1 by omega⟩,n6,rfl,?_⟩
  show Ld (.one .sl) n6 _ _
  replace h:=h.near (w':=w.drew)
  refine LdC (hcell _ h.tail) ?_
  rw[hk]
  refine putV (r:=0) (x:=sb.size) (p0:=pre.length) hb rfl om om hc hdn om h fun w h=>?_
  dsimp only
  rw[wi02 om]
  refine⟨⟨by omega,by omega⟩,⟨Int.le_refl 0,show(0:Int)<1 by omega⟩,n6,rfl,?_⟩
  show Ld (.one .sl) n6 _ _
  replace h:=h.near (w':=w.drew)
  refine LdC (hcell _ h.tail) ?_
  rw[Int.toNat_natCast]
  refine putB (e:=sb) (r:=(vi sb.size).length) (p0:=pre.length) hb (by rw[List.length_append,nb_len]) (by rw[List.length_drop];omega) om hc hk (hr _ h.tail) h fun w h=>⟨0,by omega,.inr ⟨?_,rfl,?_⟩⟩
  ·rw[wi2 om,hl];rfl
  ·unfold vb
   rw[List.append_assoc pre,<-nb_app,List.drop_drop]at h
   rw[List.length_append,bl_len]
   exact h
 ·exact ifd (fun hh=>absurd hh (show¬(1:Int)<1 by omega)) (fun _=>k w h)
theorem spec153 {cc:Nat}{a n7:Addr}{dst suf val:Sl}{pre sp:List Value}{sb xb:ByteArray}{L}{w:World}{K:Int->WP}(hb:dst.a=some (a.add pre.length))(hj:(vb sb).length+(vb xb).length<=sp.length)(hn:(vb sb).length+(vb xb).length<=dst.n)(hc:dst.n<=dst.c)(hdn:dst.n<2^40)(hz:sb.size<2^28)(hxz:xb.size<2^28)(hk:suf.n=sb.size)(hxk:val.n=xb.size)
  (hr: ∀w,Sat w L->RdB w suf.a suf.n sb) (hxr: ∀w,Sat w L->RdB w val.a val.n xb) (hcell: ∀w,Sat w L->w.cell? (n7.add 0)=some (.slice suf.a suf.n suf.c)) (hcell2: ∀w,Sat w L->w.cell? (n7.add 1)=some (.slice val.a val.n val.c)) (h:Sat w (Arr a (pre++sp)::L))
  (k: ∀w',Sat w' (Arr a ((pre++nb (vb sb++vb xb))++sp.drop (vb sb++vb xb).length)::L)->K ((vb sb++vb xb).length:Int) w'):F153 dst ⟨some n7,1,cc⟩ K w:=by
 have hl:=vb_len sb
 have hl2:=vb_len xb
 unfold F153
 refine⟨fun m (z:Int×Int) w=>z=(0,0)/\m=1/\Sat w (Arr a (pre++sp)::L)\/z=(((vb sb++vb xb).length:Int),1)/\m=0/\Sat w (Arr a ((pre++nb (vb sb++vb xb))++sp.drop (vb sb++vb xb).length)::L),⟨_,.inl ⟨rfl,rfl,h⟩⟩,?_⟩
 clear h
 rintro m z w (⟨rfl,hm,h⟩|⟨rfl,hm,h⟩)
 ·refine ifd (fun _=>?_) (fun hh=>absurd (show(0:Int)<1 by omega) hh)
  refine⟨⟨Int.le_refl 0,by dsimp only;omega⟩,⟨Int.le_refl 0,show(0:Int)<1 by omega⟩,n7,rfl,?_⟩
  show Ld (.one .sl) (n7.add 0) _ _
  replace h:=h.near (w':=w.drew)
  refine LdC (hcell _ h.tail) ?_
  rw[hk]
  refine putV (r:=0) (x:=sb.size) (p0:=pre.length) hb rfl om om hc hdn om h fun w h=>?_
  dsimp only
  rw[wi02 om]
  refine⟨⟨by omega,by omega⟩,⟨Int.le_refl 0,show(0:Int)<1 by omega⟩,n7,rfl,?_⟩
  show Ld (.one .sl) (n7.add 0) _ _
  replace h:=h.near (w':=w.drew)
  refine LdC (hcell _ h.tail) ?_
  rw[Int.toNat_natCast]
  refine putB (e:=sb) (r:=(vi sb.size).length) (p0:=pre.length) hb (by rw[List.length_append,nb_len]) (by rw[List.length_drop];omega) om hc hk (hr _ h.tail) h fun w h=>?_
  rw[wi2 om,<-hl]
  refine⟨⟨by omega,by omega⟩,⟨Int.le_refl 0,show(0:Int)<1 by omega⟩,n7,rfl,?_⟩
  show Ld (.one .sl) (n7.add 1) _ _
  replace h:=h.near (w':=w.drew)
  refine LdC (hcell2 _ h.tail) ?_
  rw[hxk,Int.toNat_natCast]
  have h2:Sat w.drew (Arr a ((pre++nb (vb sb))++sp.drop (vb sb).length)::L):=by
   unfold vb
   rw[List.append_assoc pre,<-nb_app,List.drop_drop]at h
   rw[List.length_append,bl_len]
   exact h
  clear h
  refine putV (r:=(vb sb).length) (x:=xb.size) (p0:=pre.length) hb (by rw[List.length_append,nb_len]) (by rw[List.length_drop];omega) om hc hdn om h2 fun w h=>?_
  rw[wi2 om]
  refine⟨⟨by omega,by omega⟩,⟨Int.le_refl 0,show(0:Int)<1 by omega⟩,n7,rfl,?_⟩
  show Ld (.one .sl) (n7.add 1) _ _
  replace h:=h.near (w':=w.drew)
  refine LdC (hcell2 _ h.tail) ?_
  rw[Int.toNat_natCast]
  refine putB (e:=xb) (r:=(vb sb).length+(vi xb.size).length) (p0:=pre.length) hb (by rw[List.length_append,List.length_append,nb_len,nb_len];omega) (by rw[List.length_drop,List.length_drop];omega) om hc hxk (hxr _ h.tail) h fun w h=>⟨0,by omega,.inr ⟨?_,rfl,?_⟩⟩
  ·rw[wi2 om,List.length_append,hl2,Nat.add_assoc];rfl
  ·have e:(pre++nb (vb sb))++nb (vi xb.size)++nb (bl xb)=pre++nb (vb sb++vb xb):=by
    rw[List.append_assoc,List.append_assoc,<-nb_app,<-nb_app];rfl
   rw[e,List.drop_drop,List.drop_drop]at h
   rw[List.length_append,hl2]
   exact h
 ·exact ifd (fun hh=>absurd hh (show¬(1:Int)<1 by omega)) (fun _=>k w h)
theorem spec120 {cc:Nat}{n6:Addr}{endK suf:Sl}{w:World}{K:Int->WP}(he:endK.n<2^28)(hz:suf.n<2^28)(hc:w.cell? n6=some (.slice suf.a suf.n suf.c))(k:K (((vi endK.n).length+endK.n+((vi suf.n).length+suf.n):Nat):Int) w):F120 endK ⟨some n6,1,cc⟩ K w:=by
 have hv:=vi_len4 he
 have hw:=vi_len4 hz
 unfold F120
 refine call148 (spec148 om (call149 (suffixes1:=⟨some n6,1,cc⟩) (spec149 hz hc ?_)))
 rw[wi2 om,wi2 om]
 exact k
theorem spec123 {cc:Nat}{n7:Addr}{endK suf val:Sl}{w:World}{K:Int->WP}(he:endK.n<2^28)(hz:suf.n<2^28)(hvz:val.n<2^28)(hc:w.cell? (n7.add 0)=some (.slice suf.a suf.n suf.c))(hc2:w.cell? (n7.add 1)=some (.slice val.a val.n val.c))
  (k:K (((vi endK.n).length+endK.n+((vi suf.n).length+suf.n+(vi val.n).length+val.n):Nat):Int) w):F123 endK ⟨some n7,1,cc⟩ K w:=by
 have hv:=vi_len4 he
 have hw:=vi_len4 hz
 have hw':=vi_len4 hvz
 unfold F123
 refine call148 (spec148 om (call152 (suffixValues1:=⟨some n7,1,cc⟩) (spec152 hz hvz hc hc2 ?_)))
 rw[wi2 om,wi2 om]
 exact k
theorem spec122 {cc:Nat}{a n6:Addr}{dst endK suf:Sl}{pre sp:List Value}{eb sb:ByteArray}{L}{w:World}{K:Int->WP}(hb:dst.a=some (a.add pre.length))(hd:dst.n=(vb eb++vb sb).length)(hj:dst.n<=sp.length)(hc:dst.n<=dst.c)(hez:eb.size<2^28)(hz:sb.size<2^28)(hek:endK.n=eb.size)(hk:suf.n=sb.size)
  (her: ∀w,Sat w L->RdB w endK.a endK.n eb) (hr: ∀w,Sat w L->RdB w suf.a suf.n sb) (hcell: ∀w,Sat w L->w.cell? n6=some (.slice suf.a suf.n suf.c)) (h:Sat w (Arr a (pre++sp)::L))
  (k: ∀w',Sat w' (Arr a ((pre++nb (vb eb++vb sb))++sp.drop dst.n)::L)->K (dst.n:Int) w'):F122 dst endK ⟨some n6,1,cc⟩ K w:=by
 have h4:=vi_len4 hez
 have h5:=vi_len4 hz
 have hl:=vb_len eb
 have hl2:=vb_len sb
 have hvp:=vi_pos sb.size
 have hd':=hd
 rw[List.length_append]at hd'
 unfold F122
 rw[hek]
 refine putV0 (x:=eb.size) hb om om om om h fun w h=>⟨⟨by omega,by omega⟩,?_⟩
 rw[Int.toNat_natCast]
 refine putB (e:=eb) (r:=(vi eb.size).length) (p0:=pre.length) hb (by rw[List.length_append,nb_len]) (by rw[List.length_drop];omega) om hc hek (her _ h.tail) h fun w h=>?_
 have h2:Sat w (Arr a ((pre++nb (vb eb))++sp.drop (vb eb).length)::L):=by
  unfold vb
  rw[List.append_assoc pre,<-nb_app,List.drop_drop]at h
  rw[List.length_append,bl_len]
  exact h
 clear h
 rw[wi2 om,<-hl,Int.toNat_natCast]
 refine⟨⟨by omega,by omega⟩,?_⟩
 refine call151 (dst1:=⟨(sub dst.a 1 (vb eb).length dst.n dst.c).a,dst.n-(vb eb).length,dst.c-(vb eb).length⟩) (suffixes2:=⟨some n6,1,cc⟩) (spec151 (a:=a) (pre:=pre++nb (vb eb)) (sp:=sp.drop (vb eb).length) ?_ (by rw[List.length_drop];omega) (by dsimp only;omega) (by dsimp only;omega) (by dsimp only;omega) hz hk hr hcell h2 fun w h=>?_)
 ·dsimp only
  rw[hb,subA om,Addr.add_add,List.length_append,nb_len]
 ·rw[wi2 om,<-hd']
  refine k w ?_
  rw[List.append_assoc pre,<-nb_app,List.drop_drop,<-hd']at h
  exact h
theorem spec125 {cc:Nat}{a n7:Addr}{dst endK suf val:Sl}{pre sp:List Value}{eb sb xb:ByteArray}{L}{w:World}{K:Int->WP}(hb:dst.a=some (a.add pre.length))(hd:dst.n=(vb eb++(vb sb++vb xb)).length)(hj:dst.n<=sp.length)(hc:dst.n<=dst.c)(hez:eb.size<2^28)(hz:sb.size<2^28)(hxz:xb.size<2^28)(hek:endK.n=eb.size)(hk:suf.n=sb.size)(hxk:val.n=xb.size)
  (her: ∀w,Sat w L->RdB w endK.a endK.n eb) (hr: ∀w,Sat w L->RdB w suf.a suf.n sb) (hxr: ∀w,Sat w L->RdB w val.a val.n xb) (hcell: ∀w,Sat w L->w.cell? (n7.add 0)=some (.slice suf.a suf.n suf.c)) (hcell2: ∀w,Sat w L->w.cell? (n7.add 1)=some (.slice val.a val.n val.c)) (h:Sat w (Arr a (pre++sp)::L))
  (k: ∀w',Sat w' (Arr a ((pre++nb (vb eb++(vb sb++vb xb)))++sp.drop dst.n)::L)->K (dst.n:Int) w'):F125 dst endK ⟨some n7,1,cc⟩ K w:=by
 have h4:=vi_len4 hez
 have h5:=vi_len4 hz
 have h6:=vi_len4 hxz
 have hl:=vb_len eb
 have hl2:=vb_len sb
 have hl3:=vb_len xb
 have hvp:=vi_pos sb.size
 have hd':=hd
 rw[List.length_append]at hd'
 have hd2:=hd'
 rw[List.length_append]at hd2
 unfold F125
 rw[hek]
 refine putV0 (x:=eb.size) hb om om om om h fun w h=>⟨⟨by omega,by omega⟩,?_⟩
 rw[Int.toNat_natCast]
 refine putB (e:=eb) (r:=(vi eb.size).length) (p0:=pre.length) hb (by rw[List.length_append,nb_len]) (by rw[List.length_drop];omega) om hc hek (her _ h.tail) h fun w h=>?_
 have h2:Sat w (Arr a ((pre++nb (vb eb))++sp.drop (vb eb).length)::L):=by
  unfold vb
  rw[List.append_assoc pre,<-nb_app,List.drop_drop]at h
  rw[List.length_append,bl_len]
  exact h
 clear h
 rw[wi2 om,<-hl,Int.toNat_natCast]
 refine⟨⟨by omega,by omega⟩,?_⟩
 refine call153 (dst1:=⟨(sub dst.a 1 (vb eb).length dst.n dst.c).a,dst.n-(vb eb).length,dst.c-(vb eb).length⟩) (suffixValues2:=⟨some n7,1,cc⟩) (spec153 (a:=a) (pre:=pre++nb (vb eb)) (sp:=sp.drop (vb eb).length) ?_ (by rw[List.length_drop];omega) (by dsimp only;omega) (by dsimp only;omega) (by dsimp only;omega) hz hxz hk hxk hr hxr hcell hcell2 h2 fun w h=>?_)
 ·dsimp only
  rw[hb,subA om,Addr.add_add,List.length_append,nb_len]
 ·rw[wi2 om,<-hd']
  refine k w ?_
  rw[List.append_assoc pre,<-nb_app,List.drop_drop,<-hd']at h
  exact h
theorem spec82 {b:Addr}{bs:List Nat}{cnt:Nat}{kb eb sb:ByteArray}{key endK suf:Sl}{x3:Option Addr}{R w}{K:IV->WP}(hn:key.n=kb.size)(hen:endK.n=eb.size)(hsn:suf.n=sb.size)(hz:kb.size<2^24)(hez:eb.size<2^24)(hz2:sb.size<2^24)(hsz:bs.length+kb.size+eb.size+sb.size+128<4294967295)(hcnt:cnt<2^32)
  (hr: ∀w,Sat w R->RdB w key.a key.n kb) (her: ∀w,Sat w R->RdB w endK.a endK.n eb) (hsr: ∀w,Sat w R->RdB w suf.a suf.n sb)
  (h:BtSat b bs cnt R w) (k: ∀w',BtSat b (hdr bs++recKV 20 (bl kb) (vb eb++vb sb)) (cnt+1) R w'->K .nil w'):F82 (some b) key endK suf x3 K w:=by
 have hh:=hdr_len h.hb
 have h5:=vi_len4 (n:=eb.size) om
 have h6:=vi_len4 (n:=sb.size) om
 have hl:=vb_len eb
 have hl2:=vb_len sb
 have hl3:(vb eb++vb sb).length=(vb eb).length+(vb sb).length:=List.length_append
 obtain⟨s,hs,rfl,h⟩:=h
 unfold F82
 refine NewP_run h fun n6 w h=>StL_of (St1 h rfl fun w h=>?_)
 have hcl: ∀{w} {L:List Chunk},Sat w (Arr n6 [.slice suf.a suf.n suf.c]::L)->w.cell? n6=some (.slice suf.a suf.n suf.c):=fun h=>(h.rdL .here) 0 _ rfl
 refine call120 (suffixes2:=⟨some n6,1,1⟩) (spec120 (suf:=suf) om om (hcl h) ?_)
 have hv:(vi endK.n).length+endK.n+((vi suf.n).length+suf.n)=(vb eb++vb sb).length:=by rw[hl3,hl,hl2,hen,hsn]
 rw[hv]
 have h2:Sat w (Arr b (btc s)::Buf 1 s.data (nb bs)::Arr n6 [.slice suf.a suf.n suf.c]::R):=h.pt 2
 clear h
 refine call121 ?_
 unfold F121
 rw[hn]
 refine call143 (spec143 (kind:=20) hs om om om hcnt h2 fun a c mts j1 j2 post o1 o2 w hj hj2 ho ho2 hc hpo h=>?_)
 clear h2
 refine call147 (spec147 h fun crk mfv w h=>?_)
 unfold btc at h
 refine⟨_,rfl,_,rfl,Ld1 h ?_⟩
 dsimp only at h|-
 refine doneKV1 (s:={s with crk:=crk,mfv:=mfv,data:=⟨some a,o2+(vb eb++vb sb).length,c⟩,cnt:=s.cnt+1,mts:=mts,off:=(hdr bs).length,dk:=⟨some (a.add o1),kb.size,c-o1⟩,dv:=⟨some (a.add o2),(vb eb++vb sb).length,c-o2⟩}) (w:=w) hn hj ho (hr _ (h.near).tail.tail.tail) h fun w h=>?_
 unfold btc at h
 refine⟨_,rfl,Ld1 h ?_⟩
 dsimp only
 have e1:(nb (hdr bs++20::(vi kb.size++(bl kb++vi (vb eb++vb sb).length)))).length=o2:=by rw[nb_len,List.length_append,List.length_cons,List.length_append,List.length_append,bl_len];omega
 refine call122 (dst1:=⟨some (a.add o2),(vb eb++vb sb).length,c-o2⟩) (suffixes3:=⟨some n6,1,1⟩) (spec122 (a:=a) (sp:=j2++post) (sb:=sb) (eb:=eb) (suf:=suf) (by rw[e1]) rfl (by have:(j2++post).length=j2.length+post.length:=List.length_append;dsimp only;omega) (by dsimp only;omega) om om hen hsn (fun w h=>her w h.tail.tail) (fun w h=>hsr w h.tail.tail) (fun w h=>hcl h.tail) ((h.near (w':=w.drew)).mv 1) fun w h=>?_)
 dsimp only at h|-
 rw[show(j2++post).drop (vb eb++vb sb).length=post by rw[<-hj2,List.drop_left' rfl]]at h
 have h3:=h.mv 1
 rw[List.append_assoc]at h3
 obtain⟨s',hs',e',h⟩:=doneKV2 (R:=Arr n6 [.slice suf.a suf.n suf.c]::R) (b:=b) (w:=w) (kb:=kb) (v:=vb eb++vb sb) (s:={s with crk:=crk,mfv:=mfv,data:=⟨some a,o2+(vb eb++vb sb).length,c⟩,cnt:=s.cnt+1,mts:=mts,off:=(hdr bs).length,dk:=⟨some (a.add o1),kb.size,c-o1⟩,dv:=⟨some (a.add o2),(vb eb++vb sb).length,c-o2⟩}) (kind:=20) (o2:=o2) (c:=c) ho ho2 hc rfl hh.1 h3
 have h':Sat w (Arr b (btc s')::Buf 1 s'.data (nb (hdr bs++recKV 20 (bl kb) (vb eb++vb sb)))::R):=(h.mv 2).tail
 have h:=h'
 unfold btc at h
 refine⟨fun _ w=>Sat w (Arr b (btc s')::Buf 1 s'.data (nb (hdr bs++recKV 20 (bl kb) (vb eb++vb sb)))::R),?_,ifne (fun hh=>absurd rfl hh) fun _=>h'.near⟩
 clear h h'
 intro _ w h'
 have h:=h'
 unfold btc at h
 refine⟨_,rfl,Ld1 h ?_⟩
 exact ifNNone (decI_nil (k _ ⟨s',hs',e',h'.near⟩))
theorem spec83 {b:Addr}{bs:List Nat}{cnt:Nat}{kb eb sb xb:ByteArray}{key endK suf val:Sl}{x3:Option Addr}{R w}{K:IV->WP}(hn:key.n=kb.size)(hen:endK.n=eb.size)(hsn:suf.n=sb.size)(hxn:val.n=xb.size)(hz:kb.size<2^24)(hez:eb.size<2^24)(hz2:sb.size<2^24)(hz3:xb.size<2^24)(hsz:bs.length+kb.size+eb.size+sb.size+xb.size+128<4294967295)(hcnt:cnt<2^32)
  (hr: ∀w,Sat w R->RdB w key.a key.n kb) (her: ∀w,Sat w R->RdB w endK.a endK.n eb) (hsr: ∀w,Sat w R->RdB w suf.a suf.n sb) (hxr: ∀w,Sat w R->RdB w val.a val.n xb)
  (h:BtSat b bs cnt R w) (k: ∀w',BtSat b (hdr bs++recKV 21 (bl kb) (vb eb++(vb sb++vb xb))) (cnt+1) R w'->K .nil w'):F83 (some b) key endK suf val x3 K w:=by
 have hh:=hdr_len h.hb
 have h5:=vi_len4 (n:=eb.size) om
 have h6:=vi_len4 (n:=sb.size) om
 have hl:=vb_len eb
 have hl2:=vb_len sb
 have h7:=vi_len4 (n:=xb.size) om
 have hl4:=vb_len xb
 have hl3:(vb eb++(vb sb++vb xb)).length=(vb eb).length+((vb sb).length+(vb xb).length):=by rw[List.length_append,List.length_append]
 obtain⟨s,hs,rfl,h⟩:=h
 unfold F83
 refine NewP_run h fun n6 w h=>StL_of (St1 h rfl fun w h=>St1 h rfl fun w h=>?_)
 have hcl: ∀{w} {L:List Chunk},Sat w (Arr n6 [.slice suf.a suf.n suf.c,.slice val.a val.n val.c]::L)->w.cell? (n6.add 0)=some (.slice suf.a suf.n suf.c):=fun h=>(h.rdL .here) 0 _ rfl
 have hcl2: ∀{w} {L:List Chunk},Sat w (Arr n6 [.slice suf.a suf.n suf.c,.slice val.a val.n val.c]::L)->w.cell? (n6.add 1)=some (.slice val.a val.n val.c):=fun h=>(h.rdL .here) 1 _ rfl
 refine call123 (suffixValues2:=⟨some n6,1,1⟩) (spec123 (suf:=suf) (val:=val) om om om (hcl h) (hcl2 h) ?_)
 have hv:(vi endK.n).length+endK.n+((vi suf.n).length+suf.n+(vi val.n).length+val.n)=(vb eb++(vb sb++vb xb)).length:=by rw[hl3,hl,hl2,hl4,hen,hsn,hxn];omega
 rw[hv]
 have h2:Sat w (Arr b (btc s)::Buf 1 s.data (nb bs)::Arr n6 [.slice suf.a suf.n suf.c,.slice val.a val.n val.c]::R):=h.pt 2
 clear h
 refine call124 ?_
 unfold F124
 rw[hn]
 refine call143 (spec143 (kind:=21) hs om om om hcnt h2 fun a c mts j1 j2 post o1 o2 w hj hj2 ho ho2 hc hpo h=>?_)
 clear h2
 refine call147 (spec147 h fun crk mfv w h=>?_)
 unfold btc at h
 refine⟨_,rfl,_,rfl,Ld1 h ?_⟩
 dsimp only at h|-
 refine doneKV1 (s:={s with crk:=crk,mfv:=mfv,data:=⟨some a,o2+(vb eb++(vb sb++vb xb)).length,c⟩,cnt:=s.cnt+1,mts:=mts,off:=(hdr bs).length,dk:=⟨some (a.add o1),kb.size,c-o1⟩,dv:=⟨some (a.add o2),(vb eb++(vb sb++vb xb)).length,c-o2⟩}) (w:=w) hn hj ho (hr _ (h.near).tail.tail.tail) h fun w h=>?_
 unfold btc at h
 refine⟨_,rfl,Ld1 h ?_⟩
 dsimp only
 have e1:(nb (hdr bs++21::(vi kb.size++(bl kb++vi (vb eb++(vb sb++vb xb)).length)))).length=o2:=by rw[nb_len,List.length_append,List.length_cons,List.length_append,List.length_append,bl_len];omega
 refine call125 (dst1:=⟨some (a.add o2),(vb eb++(vb sb++vb xb)).length,c-o2⟩) (suffixValues3:=⟨some n6,1,1⟩) (spec125 (xb:=xb) (val:=val) (a:=a) (sp:=j2++post) (sb:=sb) (eb:=eb) (suf:=suf) (by rw[e1]) rfl (by have:(j2++post).length=j2.length+post.length:=List.length_append;dsimp only;omega) (by dsimp only;omega) om om om hen hsn hxn (fun w h=>her w h.tail.tail) (fun w h=>hsr w h.tail.tail) (fun w h=>hxr w h.tail.tail) (fun w h=>hcl h.tail) (fun w h=>hcl2 h.tail) ((h.near (w':=w.drew)).mv 1) fun w h=>?_)
 dsimp only at h|-
 rw[show(j2++post).drop (vb eb++(vb sb++vb xb)).length=post by rw[<-hj2,List.drop_left' rfl]]at h
 have h3:=h.mv 1
 rw[List.append_assoc]at h3
 obtain⟨s',hs',e',h⟩:=doneKV2 (R:=Arr n6 [.slice suf.a suf.n suf.c,.slice val.a val.n val.c]::R) (b:=b) (w:=w) (kb:=kb) (v:=vb eb++(vb sb++vb xb)) (s:={s with crk:=crk,mfv:=mfv,data:=⟨some a,o2+(vb eb++(vb sb++vb xb)).length,c⟩,cnt:=s.cnt+1,mts:=mts,off:=(hdr bs).length,dk:=⟨some (a.add o1),kb.size,c-o1⟩,dv:=⟨some (a.add o2),(vb eb++(vb sb++vb xb)).length,c-o2⟩}) (kind:=21) (o2:=o2) (c:=c) ho ho2 hc rfl hh.1 h3
 have h':Sat w (Arr b (btc s')::Buf 1 s'.data (nb (hdr bs++recKV 21 (bl kb) (vb eb++(vb sb++vb xb))))::R):=(h.mv 2).tail
 have h:=h'
 unfold btc at h
 refine⟨fun _ w=>Sat w (Arr b (btc s')::Buf 1 s'.data (nb (hdr bs++recKV 21 (bl kb) (vb eb++(vb sb++vb xb))))::R),?_,ifne (fun hh=>absurd rfl hh) fun _=>h'.near⟩
 clear h h'
 intro _ w h'
 have h:=h'
 unfold btc at h
 refine⟨_,rfl,Ld1 h ?_⟩
 exact ifNNone (decI_nil (k _ ⟨s',hs',e',h'.near⟩))
theorem vi_len5 {n:Nat}(h:n<2^35):(vi n).length<=5:=by
 by_cases h1:n<128
 ·rw[vi_lt h1];simp
 rw[vi_ge h1,List.length_cons]
 have:=vi_len4 (n:=n/128) om
 omega
set_option maxHeartbeats 2000000 in
theorem spec84 {b:Addr}{bs:List Nat}{cnt:Nat}{kb:ByteArray}{key:Sl}{size:Nat}{x3:Option Addr}{R w}{K:IV->WP}(hn:key.n=kb.size)(hz:kb.size<2^28)(hsi:size<2^32)(hsz:bs.length+kb.size+128<4294967295)(hcnt:cnt<2^32)(hr: ∀w,Sat w R->RdB w key.a key.n kb)
  (h:BtSat b bs cnt R w) (k: ∀w',BtSat b (hdr bs++recKV 23 (bl kb) (vi (size+kb.size))) (cnt+1) R w'->K .nil w'):F84 (some b) key (size:Int) x3 K w:=by
 have hh:=hdr_len h.hb
 have hvl:=vi_len5 (n:=size+kb.size) om
 have hvp:=vi_pos (size+kb.size)
 unfold F84
 refine call126 ?_
 unfold F126
 refine⟨fun _ w=>BtSat b bs cnt R w,?_,?_⟩
 rotate_left
 ·obtain⟨s,hs,rfl,h⟩:=h
  have h':=h
  unfold btc at h
  refine⟨_,rfl,Ld1 h ?_⟩
  refine ifd (fun _=>⟨_,rfl,St1 h rfl fun w h=>⟨{s with mfv:=15},hs,rfl,h⟩⟩) fun _=>⟨s,hs,rfl,h'⟩
 clear h
 rintro _ w ⟨s,hs,rfl,h⟩
 rw[hn]
 have e0:IntKind.u64.wrap ((IntKind.u64.wrap (size:Int))+(IntKind.u64.wrap (kb.size:Int)))=((size+kb.size:Nat):Int):=by
  rw[wu64 (x:=(size:Int)) om om,wu64 (x:=(kb.size:Int)) om om,wu64 om om];omega
 rw[e0]
 generalize hx0:size+kb.size=x0 at hvl hvp k|-
 refine NewP_run h fun n6 w h=>?_
 have h0:Sat w (Arr n6 (nb []++(nb (List.replicate 10 0)).drop ([]:List Nat).length)::Arr b (btc s)::Buf 1 s.data (nb bs)::R):=h
 clear h
 refine⟨fun m (z:Int×Int) w=> ∃(done:List Nat) (y:Nat),z=((done.length:Int),(y:Int))/\vi x0=done++vi y/\m=y/\Sat w (Arr n6 (nb done++(nb (List.replicate 10 0)).drop done.length)::Arr b (btc s)::Buf 1 s.data (nb bs)::R),⟨_,[],x0,rfl,rfl,rfl,h0⟩,?_⟩
 clear h0
 rintro m z w ⟨done,y,rfl,hv,hm,h⟩
 have hl:(vi x0).length=done.length+(vi y).length:=by rw[hv,List.length_append]
 have hp:=vi_pos y
 have hd:(nb (List.replicate 10 0)).drop done.length=(nb (List.replicate 10 0))[done.length]'(by rw[nb_len,List.length_replicate];omega)::(nb (List.replicate 10 0)).drop (done.length+1):=drop_cons (by rw[nb_len,List.length_replicate];omega)
 rw[hd]at h
 dsimp only
 rw[Int.toNat_natCast]
 refine ifd (fun hge=>?_) (fun hlt=>?_)
 ·refine⟨⟨by omega,by omega⟩,?_⟩
  rw[vi_or,fdiv7 (by decide),w1 om]
  refine arrSt h (nb_len _).symm rfl fun w h=>⟨by omega,y/128,by omega,done++[y%128+128],y/128,?_,?_,rfl,?_⟩
  ·rw[List.length_append,List.length_singleton]
  ·rw[hv,vi_ge (n:=y) om,List.append_assoc];rfl
  ·have e:nb (done++[y%128+128])++(nb (List.replicate 10 0)).drop (done++[y%128+128]).length=nb done++ .int .u8 ((y%128+128:Nat):Int)::(nb (List.replicate 10 0)).drop (done.length+1):=by
    rw[nb_app,List.length_append,List.append_assoc];rfl
   rw[e]
   exact h
 have hvx:=vi_lt (n:=y) om
 have hl1:(vi x0).length=done.length+1:=by rw[hl,hvx];rfl
 refine⟨⟨by omega,by omega⟩,?_⟩
 rw[wu8 (x:=(y:Int)) om om,w1 om]
 refine arrSt h (nb_len _).symm rfl fun w h=>?_
 rw[<-hl1]
 have e:nb done++ .int .u8 ((y:Nat):Int)::(nb (List.replicate 10 0)).drop (done.length+1)=nb (vi x0)++(nb (List.replicate 10 0)).drop (vi x0).length:=by
  rw[hl1,hv,hvx,nb_app,List.append_assoc];rfl
 rw[e]at h
 have h2:Sat w (Arr b (btc s)::Buf 1 s.data (nb bs)::Arr n6 (nb (vi x0)++(nb (List.replicate 10 0)).drop (vi x0).length)::R):=h.pt 2
 clear h
 refine call143 (spec143 (kind:=23) hs hz om om hcnt h2 fun a c mts j1 j2 post o1 o2 w hj hj2 ho ho2 hc hpo h=>?_)
 clear h2
 unfold btc at h
 refine⟨_,rfl,Ld1 h ⟨_,rfl,St1 h rfl fun w h=>⟨_,rfl,Ld1 h ⟨⟨by omega,by omega⟩,?_⟩⟩⟩⟩
 dsimp only
 rw[Int.toNat_natCast]
 have hrd:RdS w.drew (some n6) ((vi x0).length*1) (nb (vi x0)):=⟨by rw[nb_len,Nat.mul_one],((h.near (w':=w.drew)).rdL .k2).left⟩
 have h3:Sat w (Arr a ((nb (hdr bs++23::vi kb.size)++(j1++nb (vi (vi x0).length)))++(j2++post))::Arr b (btc {s with data:=⟨some a,o2+(vi x0).length,c⟩,cnt:=s.cnt+1,mts:=mts,off:=(hdr bs).length,dk:=⟨some (a.add o1),kb.size,c-o1⟩,dv:=⟨some (a.add o2),(vi x0).length,c-o2⟩})::Arr n6 (nb (vi x0)++(nb (List.replicate 10 0)).drop (vi x0).length)::R):=by
  have:=h.mv 1
  rw[show(nb (hdr bs++23::vi kb.size)++(j1++nb (vi (vi x0).length)))++(j2++post)=nb (hdr bs++23::vi kb.size)++(j1++(nb (vi (vi x0).length)++(j2++post))) by simp only[List.append_assoc]]
  exact this
 clear h
 have e1:(nb (hdr bs++23::vi kb.size)++(j1++nb (vi (vi x0).length))).length=o2:=by rw[List.length_append,nb_len,List.length_append,List.length_append,List.length_cons,nb_len];omega
 refine arrCopy (s:=si87) (x:=⟨some n6,(vi x0).length,10⟩) (d:=⟨some (a.add o2),(vi x0).length,c-o2⟩) (new:=nb (vi x0)) h3 (fun _=>by rw[e1]) (by rw[nb_len,hj2]) (Nat.le_refl _) (by rw[nb_len];exact(Nat.mul_one _).symm) hrd (nb_one _) fun w h=>⟨_,rfl,?_⟩
 clear h3
 have h4:Sat w (Arr b (btc {s with data:=⟨some a,o2+(vi x0).length,c⟩,cnt:=s.cnt+1,mts:=mts,off:=(hdr bs).length,dk:=⟨some (a.add o1),kb.size,c-o1⟩,dv:=⟨some (a.add o2),(vi x0).length,c-o2⟩})::Arr a (nb (hdr bs++23::vi kb.size)++(j1++(nb (vi (vi x0).length)++(nb (vi x0)++post))))::R):=by
  have h5:=(h.t2.tail).mv 1
  rw[show(nb (hdr bs++23::vi kb.size)++(j1++nb (vi (vi x0).length)))++(nb (vi x0)++post)=nb (hdr bs++23::vi kb.size)++(j1++(nb (vi (vi x0).length)++(nb (vi x0)++post))) by simp only[List.append_assoc]]at h5
  exact h5
 clear h
 have h:=h4
 unfold btc at h
 refine⟨_,rfl,Ld1 h ?_⟩
 dsimp only
 refine doneKV1 (w:=w) hn hj ho (hr _ h4.tail.tail) h4 fun w h=>?_
 clear h4
 obtain⟨s',hs',e',h⟩:=doneKV2 (kb:=kb) (v:=vi x0) (s:={s with data:=⟨some a,o2+(vi x0).length,c⟩,cnt:=s.cnt+1,mts:=mts,off:=(hdr bs).length,dk:=⟨some (a.add o1),kb.size,c-o1⟩,dv:=⟨some (a.add o2),(vi x0).length,c-o2⟩}) (kind:=23) (o2:=o2) (c:=c) ho ho2 hc rfl hh.1 h
 have h':=h
 unfold btc at h
 refine⟨_,rfl,Ld1 h ?_⟩
 exact ifNNone (decI_nil (k _ ⟨s',hs',e',h'.near⟩))
structure OpM where
 kind:Nat
 key:ByteArray
 val:ByteArray
 end_:ByteArray
 suf:ByteArray
 size:Nat
def oc (o:OpM):List Value:=[.int .u8 (o.kind:Int),.string o.key,.string o.val,.string o.end_,.string o.suf,.int .u32 (o.size:Int)]
def recOp (o:OpM):List Nat:=
 if o.kind=0\/o.kind=7 then recK o.kind (bl o.key)
 else if o.kind=15\/o.kind=19 then recKV o.kind (bl o.key) (bl o.end_)
 else if o.kind=20 then recKV o.kind (bl o.key) (vb o.end_++vb o.suf)
 else if o.kind=21 then recKV o.kind (bl o.key) (vb o.end_++(vb o.suf++vb o.val))
 else if o.kind=23 then recKV o.kind (bl o.key) (vi (o.size+o.key.size))
 else recKV o.kind (bl o.key) (bl o.val)
def OpKind (n:Nat):Prop:=n=0\/n=1\/n=2\/n=7\/n=15\/n=19\/n=20\/n=21\/n=23
structure OpOK (o:OpM):Prop where
 kind:OpKind o.kind
 key:o.key.size<=2^20
 val:o.val.size<=2^20
 end_:o.end_.size<=2^20
 suf:o.suf.size<=2^20
 size:o.size<2^32
def RdIn (R:List Chunk)(x:Sl)(s:ByteArray):Prop:=x.n=s.size/\ ∀w,Sat w R->RdB w x.a x.n s
theorem RdIn.up {R}{c:Chunk}{x:Sl}{s:ByteArray}(h:RdIn R x s):RdIn (c::R) x s:=⟨h.1,fun w hs=>h.2 w hs.tail⟩
theorem btBytes {b:Addr}{bs:List Nat}{cnt:Nat}{R w}{s:ByteArray}{K:Sl->WP}(h:BtSat b bs cnt R w)(k: ∀x c w',RdIn (c::R) x s->BtSat b bs cnt (c::R) w'->K x w'):BytesP 5 s K w:=by
 obtain⟨t,ht,hc,h⟩:=h
 refine BytesP_run h fun p c w hcc h=>k _ (Arr p (bytesOf s++List.replicate (c-s.size) (Value.int .u8 0))) w ⟨rfl,fun w hs=>?_⟩ ⟨t,ht,hc,h.pt 2⟩
 exact⟨rfl,(hs.rdL .here).left⟩
theorem btAt {b:Addr}{bs:List Nat}{cnt:Nat}{R w}{s:S}{p:Addr}{v:Value}{u:Value->List Chunk}{x:s.den}(h:BtSat b bs cnt R w)[i:HasI R p v u][e:Enc s v x]:LdAt (.one s) p x w:=by
 obtain⟨t,ht,hc,h⟩:=h
 exact LdAt1 h.tail.tail
theorem BtSat.drop {b:Addr}{bs:List Nat}{cnt:Nat}{R w}{c:Chunk}(h:BtSat b bs cnt (c::R) w):BtSat b bs cnt R w:=by
 obtain⟨t,ht,hc,h⟩:=h
 exact⟨t,ht,hc,(h.mv 2).tail⟩
theorem BtSat.frame {b:Addr}{bs:List Nat}{cnt:Nat}{R w}(h:BtSat b bs cnt R w):Sat w R:=by
 obtain⟨t,ht,hc,h⟩:=h
 exact h.tail.tail
theorem ift {a:Bool}{A B:Prop}(h:a=true)(x:A):if a=true then A else B:=by rw[if_pos h];exact x
theorem iff' {a:Bool}{A B:Prop}(h:a=false)(x:B):if a=true then A else B:=by rw[if_neg (by rw[h];simp)];exact x
theorem specB43 {b n3:Addr}{bs:List Nat}{cnt:Nat}{o:OpM}{kk ee ss vv:Sl}{R}{w:World}{K:Bool->WP}(ho:OpOK o)(hsz:bs.length+2^23<4294967295)(hcnt:cnt<2^32)(hk:RdIn R kk o.key)(he:RdIn R ee o.end_)(hs:RdIn R ss o.suf)(hv:RdIn R vv o.val)
  (hc0: ∀w,Sat w R->w.cell? (n3.add 0)=some (.int .u8 (o.kind:Int))) (hc5: ∀w,Sat w R->w.cell? (n3.add 5)=some (.int .u32 (o.size:Int))) (h:BtSat b bs cnt R w) (k: ∀w',BtSat b (hdr bs++recOp o) (cnt+1) R w'->K true w'):B43 n3 (some b) kk ee ss vv K w:=by
 obtain⟨z1,z2,z3,z4,z5,z6⟩:=ho
 unfold B43
 refine⟨fun i w=>i= .nil/\BtSat b (hdr bs++recOp o) (cnt+1) R w,?_,?_⟩
 ·rintro i w ⟨rfl,h⟩
  exact⟨IsI_enc _,k w h⟩
 ·refine LdC (hc0 _ h.frame) ?_
  obtain⟨kind,key,val,end_,suf,size⟩:=o
  dsimp only at*
  rcases z1 with rfl|rfl|rfl|rfl|rfl|rfl|rfl|rfl|rfl
  ·exact call75 (spec75 hk.1 om om hcnt hk.2 h fun w h=>decI_nil ⟨rfl,h⟩)
  ·exact call76 (spec76 hk.1 hv.1 om om om hcnt hk.2 hv.2 h fun w h=>decI_nil ⟨rfl,h⟩)
  ·exact call77 (spec77 hk.1 hv.1 om om om hcnt hk.2 hv.2 h fun w h=>decI_nil ⟨rfl,h⟩)
  ·exact call79 (spec79 hk.1 om om hcnt hk.2 h fun w h=>decI_nil ⟨rfl,h⟩)
  ·exact call80 (spec80 hk.1 he.1 om om om hcnt hk.2 he.2 h fun w h=>decI_nil ⟨rfl,h⟩)
  ·exact call81 (spec81 hk.1 he.1 om om om hcnt hk.2 he.2 h fun w h=>decI_nil ⟨rfl,h⟩)
  ·exact call82 (spec82 hk.1 he.1 hs.1 om om om om hcnt hk.2 he.2 hs.2 h fun w h=>decI_nil ⟨rfl,h⟩)
  ·exact call83 (spec83 hk.1 he.1 hs.1 hv.1 om om om om om hcnt hk.2 he.2 hs.2 hv.2 h fun w h=>decI_nil ⟨rfl,h⟩)
  ·refine LdC (hc5 _ h.frame) ?_
   exact call84 (spec84 hk.1 om om om hcnt hk.2 h fun w h=>decI_nil ⟨rfl,h⟩)
theorem BtSat.near {b:Addr}{bs:List Nat}{cnt:Nat}{R w w1}[Near w w1](h:BtSat b bs cnt R w):BtSat b bs cnt R w1:=by
 obtain⟨t,ht,hc,h⟩:=h
 exact⟨t,ht,hc,h.near⟩
set_option maxHeartbeats 4000000 in
theorem spec43 {b:Addr}{bs:List Nat}{cnt:Nat}{o:OpM}{R w}{K:Bool->WP}(ho:OpOK o)(hsz:bs.length+2^23<4294967295)(hcnt:cnt<2^32)(h:BtSat b bs cnt R w)(k: ∀w',BtSat b (hdr bs++recOp o) (cnt+1) R w'->K true w'):
  F43 ((o.kind:Int),o.key,o.val,o.end_,o.suf,(o.size:Int)) (some b) K w:=by
 have leaf: ∀{n3:Addr} {kk ee ss vv:Sl} {c1 c2 c3 c4:Chunk} {w:World},RdIn (c4::c3::c2::c1::Arr n3 (oc o)::R) kk o.key->RdIn (c4::c3::c2::c1::Arr n3 (oc o)::R) ee o.end_->RdIn (c4::c3::c2::c1::Arr n3 (oc o)::R) ss o.suf->RdIn (c4::c3::c2::c1::Arr n3 (oc o)::R) vv o.val->
   BtSat b bs cnt (c4::c3::c2::c1::Arr n3 (oc o)::R) w->B43 n3 (some b) kk ee ss vv K w:=fun hk he hs hv h=>
  specB43 ho hsz hcnt hk he hs hv (fun w h=>(h.tail.tail.tail.tail.rdL .here) 0 _ rfl) (fun w h=>(h.tail.tail.tail.tail.rdL .here) 5 _ rfl) h fun w h=>k w h.drop.drop.drop.drop.drop
 obtain⟨t,ht,hc,h⟩:=h
 unfold F43
 refine NewP_run h fun n3 w h=>?_
 have h0:BtSat b bs cnt (Arr n3 [.int .u8 (o.kind:Int),.string o.key,.string o.val,.string o.end_,.string o.suf,.int .u32 (o.size:Int)]::R) w.drew:=⟨t,ht,hc,(h.pt 2).near⟩
 refine Ld1 h (Ld1 h (Ld1 h (Ld1 h ?_)))
 clear h
 repeat' first
  |exact btAt (by assumption)
  |(refine leaf ?_ ?_ ?_ ?_ (by assumption)<;>first|assumption|exact RdIn.up (by assumption)|exact RdIn.up (RdIn.up (by assumption))|exact RdIn.up (RdIn.up (RdIn.up (by assumption))))
  |(refine btBytes (by assumption) ?_;intro x c w hr hb)
  |refine And.intro ?_ ?_
def OpsIn (R:List Chunk)(x:Sl)(l:List OpM):Prop:=x.n=l.length/\ ∀w,Sat w R-> ∀(j:Nat) (o:OpM),l[j]? =some o-> ∃e,x.a=some e/\RdL w (e.add (j*6)) (oc o)
theorem OpsIn.up {R}{c:Chunk}{x:Sl}{l:List OpM}(h:OpsIn R x l):OpsIn (c::R) x l:=⟨h.1,fun w hs=>h.2 w hs.tail⟩
def encL (l:List OpM):List Nat:=if l=[]then []else z12++l.flatMap recOp
theorem hdr_encL (l:List OpM):hdr (encL l)=z12++l.flatMap recOp:=by
 cases l with
 |nil=>simp[encL,hdr]
 | cons o l =>
  have e:encL (o::l)=z12++(o::l).flatMap recOp:=if_neg (by simp)
  have hne: ¬encL (o::l)=[]:=by
   intro h
   rw[e]at h
   have:=congrArg List.length h
   rw[List.length_append]at this
   simp[z12]at this
  unfold hdr
  rw[if_neg hne,e]
theorem encL_snoc (l:List OpM)(o:OpM):encL (l++[o])=hdr (encL l)++recOp o:=by
 rw[hdr_encL]
 unfold encL
 rw[if_neg (by simp),List.flatMap_append,<-List.append_assoc]
 simp
theorem recOp_len {o:OpM}(h:OpOK o):(recOp o).length<=2^22+64:=by
 obtain⟨z1,z2,z3,z4,z5,z6⟩:=h
 have a1:=vi_len4 (n:=o.key.size) om
 have a2:=vi_len4 (n:=o.val.size) om
 have a3:=vi_len4 (n:=o.end_.size) om
 have a4:=vi_len4 (n:=o.suf.size) om
 have a5:=vi_len5 (n:=o.size+o.key.size) om
 have b1:=vb_len o.end_
 have b2:=vb_len o.suf
 have b3:=vb_len o.val
 unfold recOp
 have e1:=bl_len o.key
 have e2:=bl_len o.val
 have e3:=bl_len o.end_
 repeat' split
 ·rw[recK_len,e1];omega
 ·rw[recKV_len,e1,e3];omega
 ·rw[recKV_len,e1,List.length_append]
  have:=vi_len4 (n:=(vb o.end_).length+(vb o.suf).length) om
  omega
 ·rw[recKV_len,e1,List.length_append,List.length_append]
  have:=vi_len4 (n:=(vb o.end_).length+((vb o.suf).length+(vb o.val).length)) om
  omega
 ·rw[recKV_len,e1]
  have:=vi_len4 (n:=(vi (o.size+o.key.size)).length) om
  omega
 ·rw[recKV_len,e1,e2];omega
theorem flat_len {l:List OpM}(h: ∀o∈l,OpOK o):(l.flatMap recOp).length<=l.length*(2^22+64):=by
 induction l with
 |nil=>simp
 |cons o l ih=>
  rw[List.flatMap_cons,List.length_append,List.length_cons,Nat.succ_mul]
  have:=recOp_len (h o (by simp))
  have:=ih fun x hx=>h x (by simp[hx])
  omega
theorem encL_len {l:List OpM}(h: ∀o∈l,OpOK o):(encL l).length<=12+l.length*(2^22+64):=by
 unfold encL
 split
 ·simp
 ·rw[List.length_append]
  have:=flat_len h
  have:z12.length=12:=rfl
  omega
theorem spec22 {ops:Sl}{l:List OpM}{R w}{K:Option Addr×Bool->WP}(hl: ∀o∈l,OpOK o)(hn:l.length<=512)(hops:OpsIn R ops l)(h:Sat w R)(k: ∀b w',BtSat b (encL l) l.length R w'->K (some b,true) w'):F22 ops K w:=by
 unfold F22
 refine NewP_run h fun b w h=>?_
 have h0:BtSat b (encL (l.take 0)) 0 R w:=⟨⟨⟨none,0,0⟩,0,0,0,0,⟨none,0,0⟩,⟨none,0,0⟩,0,0⟩,.inl ⟨rfl,rfl⟩,rfl,(h.bufNil 1).mv 1⟩
 refine⟨fun m (z:Int) w=> ∃i:Nat,z=i/\i<=l.length/\m=l.length-i/\BtSat b (encL (l.take i)) i R w,⟨_,0,rfl,Nat.zero_le _,rfl,h0⟩,?_⟩
 clear h h0
 rintro m z w ⟨i,rfl,hi,hm,h⟩
 refine ifd (fun hlt=>?_) (fun hge=>?_)
 ·rw[hops.1]at hlt
  have hil:i<l.length:=by omega
  have ho:l[i]? =some l[i]:=List.getElem?_eq_getElem hil
  obtain⟨e,he,hr⟩:=hops.2 w h.frame i _ ho
  have hm:=List.getElem_mem hil
  have htake:l.take (i+1)=l.take i++[l[i]]:=by rw[List.take_add_one,ho];rfl
  generalize l[i]=o at ho hr hm htake
  rw[Int.toNat_natCast]
  refine⟨⟨by omega,by rw[hops.1];omega⟩,e,he,?_⟩
  unfold oc at hr
  refine LdR hr ?_
  obtain⟨t,ht,hc,h⟩:=h
  refine NewP_run h fun n7 w h=>StL_of (St1 h rfl fun w h=>St1 h rfl fun w h=>St1 h rfl fun w h=>St1 h rfl fun w h=>St1 h rfl fun w h=>St1 h rfl fun w h=>LdN h ?_)
  have hb:BtSat b (encL (l.take i)) i (Arr n7 [.int .u8 (o.kind:Int),.string o.key,.string o.val,.string o.end_,.string o.suf,.int .u32 (o.size:Int)]::R) w:=⟨t,ht,hc,h.pt 2⟩
  clear h
  have hsz:=encL_len (l:=l.take i) fun x hx=>hl x (List.mem_of_mem_take hx)
  rw[List.length_take]at hsz
  have hsz2:min i l.length*(2^22+64)<=512*(2^22+64):=Nat.mul_le_mul om (Nat.le_refl _)
  refine call43 (spec43 (hl o hm) om om hb fun w hb=>?_)
  have ew:IntKind.i64.wrap ((i:Int)+1)=((i+1:Nat):Int):=w1 om
  rw[ew]
  refine⟨l.length-(i+1),by omega,i+1,rfl,by omega,rfl,?_⟩
  rw[htake,encL_snoc]
  exact hb.drop
 ·rw[hops.1]at hge
  have:i=l.length:=by omega
  subst this
  rw[List.take_length]at h
  exact k b w h
structure Cont (D:Hp)(x:Sl)(l:List Nat):Prop where
 n:x.n=l.length
 nc:x.n<=x.c
 sm:x.a.isSome=true
 get: ∀(j y:Nat),l[j]? =some y-> ∃e,x.a=some e/\DAt D (e.add j) (.int .u8 (y:Int))
theorem Cont.mono {D D':Hp}(hd:D.le D'){x:Sl}{l:List Nat}(h:Cont D x l):Cont D' x l:=⟨h.n,h.nc,h.sm,fun j y e=>(h.get j y e).imp fun _ g=>⟨g.1,g.2.mono hd⟩⟩
theorem Cont.sub {D}{x:Sl}{l:List Nat}{p q:Nat}(h:Cont D x l)(hp:p<=q)(hq:q<=x.n):Cont D ⟨(sub x.a 1 p q x.c).a,q-p,x.c-p⟩ ((l.drop p).take (q-p)):=by
 have h1:=h.n
 have h2:=h.nc
 obtain⟨e,he⟩:=Option.isSome_iff_exists.1 h.sm
 refine⟨by rw[List.length_take,List.length_drop];dsimp only;omega,by dsimp only;omega,?_,fun j y hj=>?_⟩
 ·rw[he];unfold Go.Tr.sub;split<;>rfl
 ·rw[List.getElem?_take]at hj
  split at hj
  ·rename_i hlt
   rw[List.getElem?_drop]at hj
   obtain⟨e',he',hd⟩:=h.get _ _ hj
   rw[he]at he'
   injection he' with he'
   subst he'
   refine⟨e.add p,?_,?_⟩
   ·dsimp only;rw[he];exact subA om
   ·rw[Addr.add_add];exact hd
  ·cases hj
theorem Cont.tail {D}{x:Sl}{l:List Nat}{p:Nat}(h:Cont D x l)(hp:p<=x.n):Cont D ⟨(Go.Tr.sub x.a 1 p x.n x.c).a,x.n-p,x.c-p⟩ (l.drop p):=by
 have h1:=h.sub (p:=p) (q:=x.n) hp (Nat.le_refl _)
 rwa[List.take_of_length_le (by rw[List.length_drop,h.n];exact Nat.le_refl _)]at h1
theorem and127 : ∀y:Fin 256,IntKind.u8.wrap ((BitVec.ofInt IntKind.u8.bits (y.val:Int)&&&BitVec.ofInt IntKind.u8.bits (127:Int)).toNat:Int)=((y.val%128:Nat):Int):=by decide +kernel
theorem and7 {n:Nat}:IntKind.u8.wrap ((BitVec.ofInt IntKind.u8.bits ((n%128+128:Nat):Int)&&&BitVec.ofInt IntKind.u8.bits (127:Int)).toNat:Int)=((n%128:Nat):Int):=by
 rw[and127 ⟨n%128+128,by omega⟩]
 show(((n%128+128)%128:Nat):Int)=_
 congr 1;omega
theorem wu32n {n:Nat}(h:n<2^32):IntKind.u32.wrap (n:Int)=(n:Int):=wu32 om om
theorem or32 {a b k:Nat}(hb:b<2^k)(h:a*2^k<2^32)(hk:k<=32):IntKind.u32.wrap ((BitVec.ofInt IntKind.u32.bits ((a*2^k:Nat):Int)|||BitVec.ofInt IntKind.u32.bits (b:Int)).toNat:Int)=((a*2^k+b:Nat):Int):=by
 have hb32:b<2^32:=Nat.lt_of_lt_of_le hb (Nat.pow_le_pow_right om hk)
 show IntKind.u32.wrap (((BitVec.ofInt 32 ((a*2^k:Nat):Int)|||BitVec.ofInt 32 (b:Int)).toNat:Nat):Int)=_
 rw[BitVec.toNat_or,BitVec.ofInt_natCast,BitVec.ofInt_natCast,BitVec.toNat_ofNat,BitVec.toNat_ofNat,Nat.mod_eq_of_lt h,Nat.mod_eq_of_lt hb32]
 have e:a*2^k|||b=a*2^k+b:=by
  rw[<-Nat.shiftLeft_eq]
  exact(Nat.shiftLeft_add_eq_or_of_lt hb a).symm
 rw[e]
 refine wu32n ?_
 have h1:a<2^(32-k):=by
  refine Nat.lt_of_mul_lt_mul_right (a:=2^k) ?_
  rw[<-Nat.pow_add,show 32-k+k=32 by omega];exact h
 calc a*2^k+b<a*2^k+2^k:=by omega
  _=(a+1)*2^k:=by rw[Nat.succ_mul]
  _<=2^(32-k)*2^k:=Nat.mul_le_mul_right _ h1
  _=2^32:=by rw[<-Nat.pow_add,show 32-k+k=32 by omega]
theorem shl32 {n k:Nat}(h:n*2^k<2^32)(hk:k<=32)(hn:n<2^32):IntKind.u32.wrap ((IntKind.u32.wrap (n:Int))*2^(min k IntKind.u32.bits))=((n*2^k:Nat):Int):=by
 rw[wu32n hn,show min k IntKind.u32.bits=k from Nat.min_eq_left hk]
 have:(n:Int)*2^k=((n*2^k:Nat):Int):=by rw[Int.natCast_mul,Int.natCast_pow];rfl
 rw[this]
 exact wu32n h
theorem Cont.byte {D}{x:Sl}{l:List Nat}{L R w}{j y:Nat}{K:Int->WP}(hc:Cont D x l)(h:Sat w L)(t:Take L (Own D) R)(e:l[j]? =some y)(k:K (y:Int) w): ∃e4,x.a=some e4/\Ld (.one (.int .u8)) (e4.add (j*1)) K w:=by
 obtain⟨e4,he,hd⟩:=hc.get j y e
 refine⟨e4,he,?_⟩
 rw[Nat.mul_one]
 exact LdC (h.dat t hd) k
theorem spec130 {D}{x:Sl}{m:Nat}{str rest:List Nat}{L R w}{K:Sl×Sl×Bool->WP}(hm:m<2^28)(hs:str.length=m)(hc:Cont D x (vi m++(str++rest)))(hn:x.n<2^32)(h:Sat w L)(t:Take L (Own D) R)
  (k: ∀(r y:Sl) w',Cont D r rest->r.c=x.c-(vi m).length-m->Cont D y str->y.c=x.c-(vi m).length->Sat w' L->K (r,y,true) w'):F130 x K w:=by
 have hl:=hc.n
 rw[List.length_append,List.length_append,hs]at hl
 have hnc:=hc.nc
 unfold F130
 refine⟨fun z w=>z=((m:Int),((vi m).length:Int))/\Sat w L,?_,?_⟩
 ·rintro z w ⟨rfl,h⟩
  dsimp only
  rw[Int.toNat_natCast,Int.toNat_natCast]
  refine⟨⟨by omega,by omega⟩,ifd (fun hh=>absurd hh ?_) fun _=>⟨⟨by omega,by omega⟩,⟨by omega,by omega⟩,?_⟩⟩
  ·rw[wu32n om];omega
  ·have c1:=hc.tail (p:=(vi m).length) om
   rw[List.drop_left' rfl]at c1
   have c2:=c1.tail (p:=m) (by dsimp only;omega)
   rw[List.drop_left' hs]at c2
   have c3:=hc.sub (p:=(vi m).length) (q:=(vi m).length+m) om om
   rw[List.drop_left' rfl,show(vi m).length+m-(vi m).length=m by omega,List.take_left' hs]at c3
   exact k _ _ _ c2 rfl c3 rfl h.near
 ·by_cases h1:m<128
  ·have e:=vi_lt h1
   rw[e]at hc hl|-
   simp only[List.length_singleton]at hl|-
   refine⟨⟨by omega,by omega⟩,hc.byte h t (j:=0) rfl (ifd (fun _=>⟨?_,h⟩) fun hh=>absurd om hh)⟩
   rw[wu32n om];rfl
  have e:=vi_ge h1
  by_cases h2:m/128<128
  ·rw[e,vi_lt h2]at hc hl|-
   simp only[List.length_cons,List.length_nil]at hl|-
   refine⟨⟨by omega,by omega⟩,hc.byte h t (j:=0) rfl (ifd (fun hh=>absurd hh om) fun _=>⟨⟨by omega,by omega⟩,hc.byte h.near t (j:=1) rfl (ifd (fun _=>⟨by omega,?_,h.near⟩) fun hh=>absurd om hh)⟩)⟩
   rw[and7,wu32n (n:=m%128) om,shl32 om om om,or32 om om om]
   congr 2;omega
  have e2:=vi_ge h2
  by_cases h3:m/128/128<128
  ·rw[e,e2,vi_lt h3]at hc hl|-
   simp only[List.length_cons,List.length_nil]at hl|-
   refine⟨⟨by omega,by omega⟩,hc.byte h t (j:=0) rfl (ifd (fun hh=>absurd hh om) fun _=>⟨⟨by omega,by omega⟩,hc.byte h.near t (j:=1) rfl (ifd (fun hh=>absurd hh om) fun _=>⟨⟨by omega,by omega⟩,hc.byte h.near t (j:=2) rfl (ifd (fun _=>⟨by omega,by omega,?_,h.near⟩) fun hh=>absurd om hh)⟩)⟩)⟩
   rw[and7,and7,wu32n (n:=m%128) om,shl32 (n:=m/128/128) (k:=14) om om om,shl32 (n:=m/128%128) (k:=7) om om om,or32 (a:=m/128/128) (k:=14) om om om,
    show m/128/128*2^14+m/128%128*2^7=m/128*2^7 by omega,or32 (a:=m/128) (k:=7) om om om]
   congr 2;omega
  ·have e3:=vi_ge h3
   rw[e,e2,e3,vi_lt (n:=m/128/128/128) om]at hc hl|-
   simp only[List.length_cons,List.length_nil]at hl|-
   refine⟨⟨by omega,by omega⟩,hc.byte h t (j:=0) rfl (ifd (fun hh=>absurd hh om) fun _=>⟨⟨by omega,by omega⟩,hc.byte h.near t (j:=1) rfl (ifd (fun hh=>absurd hh om) fun _=>⟨⟨by omega,by omega⟩,hc.byte h.near t (j:=2) rfl (ifd (fun hh=>absurd hh om) fun _=>⟨⟨by omega,by omega⟩,hc.byte h.near t (j:=3) rfl (ifd (fun _=>⟨by omega,by omega,by omega,?_,h.near⟩) fun hh=>absurd om hh)⟩)⟩)⟩)⟩
   rw[and7,and7,and7,wu32n (n:=m%128) om,shl32 (n:=m/128/128/128) (k:=21) om om om,shl32 (n:=m/128/128%128) (k:=14) om om om,shl32 (n:=m/128%128) (k:=7) om om om,or32 (a:=m/128/128/128) (k:=21) om om om,
    show m/128/128/128*2^21+m/128/128%128*2^14=m/128/128*2^14 by omega,or32 (a:=m/128/128) (k:=14) om om om,
    show m/128/128*2^14+m/128%128*2^7=m/128*2^7 by omega,or32 (a:=m/128) (k:=7) om om om]
   congr 2;omega
theorem wu64n {n:Nat}(h:n<2^64):IntKind.u64.wrap (n:Int)=(n:Int):=wu64 om om
theorem or64 {a b k:Nat}(hb:b<2^k)(h:a*2^k+b<2^64)(hk:k<=64):IntKind.u64.wrap ((BitVec.ofInt IntKind.u64.bits (b:Int)|||BitVec.ofInt IntKind.u64.bits ((a*2^k:Nat):Int)).toNat:Int)=((a*2^k+b:Nat):Int):=by
 show IntKind.u64.wrap (((BitVec.ofInt 64 (b:Int)|||BitVec.ofInt 64 ((a*2^k:Nat):Int)).toNat:Nat):Int)=_
 rw[BitVec.toNat_or,BitVec.ofInt_natCast,BitVec.ofInt_natCast,BitVec.toNat_ofNat,BitVec.toNat_ofNat,Nat.mod_eq_of_lt (a:=b) om,Nat.mod_eq_of_lt (a:=a*2^k) om,Nat.or_comm]
 have e:a*2^k|||b=a*2^k+b:=by
  rw[<-Nat.shiftLeft_eq]
  exact(Nat.shiftLeft_add_eq_or_of_lt hb a).symm
 rw[e]
 exact wu64n h
theorem shl64 {n k:Nat}(h:n*2^k<2^64)(hk:k<=64)(hn:n<2^64):IntKind.u64.wrap ((IntKind.u64.wrap (n:Int))*2^(min k IntKind.u64.bits))=((n*2^k:Nat):Int):=by
 rw[wu64n hn,show min k IntKind.u64.bits=k from Nat.min_eq_left hk]
 have:(n:Int)*2^k=((n*2^k:Nat):Int):=by rw[Int.natCast_mul,Int.natCast_pow];rfl
 rw[this]
 exact wu64n h
theorem spec138 {D}{x:Sl}{m:Nat}{rest:List Nat}{L R w}{K:Int×Int->WP}(hm:m<2^28)(hc:Cont D x (vi m++rest))(hn:x.n<2^40)(h:Sat w L)(t:Take L (Own D) R)(k:Sat w L->K ((m:Int),((vi m).length:Int)) w):F138 x K w:=by
 have hl:=hc.n
 rw[List.length_append]at hl
 have h4:=vi_len4 hm
 unfold F138
 refine⟨fun M (z:Int×Int×Int) w'=>w'=w/\ ∃(done:List Nat) (y lo:Nat),z=((lo:Int),((7*done.length:Nat):Int),(done.length:Int))/\vi m=done++vi y/\m=y*2^(7*done.length)+lo/\lo<2^(7*done.length)/\M=y,⟨_,rfl,[],m,0,rfl,rfl,by simp,by simp,rfl⟩,?_⟩
 rintro M z w' ⟨rfl,done,y,lo,rfl,hv,hmy,hlo,hM⟩
 have hp:=vi_pos y
 have hl2:(vi m).length=done.length+(vi y).length:=by rw[hv,List.length_append]
 have hym:y<=m:=by
  have:1<=2^(7*done.length):=Nat.one_le_two_pow
  have:=Nat.le_mul_of_pos_right y this
  omega
 have hd3:done.length<=3:=by omega
 have hp2:2^(7*done.length)<=2^21:=Nat.pow_le_pow_right om om
 dsimp only
 rw[Int.toNat_natCast]
 refine ifd (fun _=>?_) (fun hh=>absurd om hh)
 refine⟨⟨by omega,by omega⟩,?_⟩
 by_cases hy:y<128
 ·have ev:=vi_lt hy
  have hb:(vi m++rest)[done.length]? =some y:=by rw[hv,ev];simp
  refine hc.byte h t hb (ife (fun hh=>absurd hh om) fun _=>ifd (fun _=>ife (fun hh=>absurd hh om) fun _=>⟨by omega,?_⟩) fun hh=>absurd om hh)
  rw[Int.toNat_natCast,shl64 (by have:=Nat.mul_le_mul (show y<=127 by omega) hp2;omega) om om,or64 hlo om om,<-hmy,w1 om]
  rw[ev]at hl2
  rw[show done.length+1=(vi m).length from hl2.symm]
  exact k h
 ·have ev:=vi_ge hy
  have hb:(vi m++rest)[done.length]? =some (y%128+128):=by rw[hv,ev];simp
  refine hc.byte h t hb (ife (fun hh=>absurd hh om) fun _=>ifd (fun hh=>absurd hh om) fun _=>⟨by omega,?_⟩)
  have e7:y%128*2^(7*done.length)+lo<2^(7*done.length)*128:=by
   have h1:=Nat.mul_le_mul_right (2^(7*done.length)) (show y%128<=127 by omega)
   omega
  have ep:2^(7*(done.length+1))=2^(7*done.length)*128:=by rw[Nat.mul_succ,Nat.pow_add]
  rw[and7,Int.toNat_natCast,shl64 om om om,or64 hlo om om,w1 om,wu64 om om]
  refine⟨y/128,by omega,rfl,done++[y%128+128],y/128,y%128*2^(7*done.length)+lo,?_,?_,?_,?_,rfl⟩
  ·rw[List.length_append,List.length_singleton]
   congr 2
  ·rw[hv,ev,List.append_assoc];rfl
  ·rw[List.length_append,List.length_singleton,ep,hmy]
   have:y=y/128*128+y%128:=by omega
   generalize 2^(7*done.length)=P at*
   have e9:y*P=(y/128)*(P*128)+(y%128)*P:=by
    conv=>lhs;rw[this]
    rw[Nat.add_mul,Nat.mul_assoc,Nat.mul_comm 128 P]
   omega
  ·rw[List.length_append,List.length_singleton,ep];exact e7
theorem Cont.bytes {D}{y:Sl}{s:ByteArray}(h:Cont D y (bl s)):BytesAt D y s:=by
 obtain⟨a,n,c⟩:=y
 obtain⟨e,he⟩:=Option.isSome_iff_exists.1 h.sm
 dsimp only at he
 subst he
 have hn:=h.n
 rw[bl_len]at hn
 refine⟨hn.symm,fun j v hv=>?_⟩
 rw[bytesOf_bl]at hv
 unfold nb at hv
 rw[List.getElem?_map]at hv
 cases e1:(bl s)[j]? with
 |none=>rw[e1]at hv;cases hv
 |some y=>
  rw[e1]at hv
  injection hv with hv
  obtain⟨e',he',hd⟩:=h.get j y e1
  injection he' with he'
  subst he'
  rw[<-hv];exact hd
theorem spec142 {D}{x:Sl}{e:ByteArray}{rest:List Nat}{L R w}{K:Sl×Sl×Bool->WP}(he:e.size<2^28)(hc:Cont D x (vb e++rest))(hn:x.n<2^40)(h:Sat w L)(t:Take L (Own D) R)
  (k: ∀y r w',Cont D y (bl e)->Cont D r rest->Sat w' L->K (y,r,true) w'):F142 x K w:=by
 have hv:=vi_pos e.size
 have hl:=hc.n
 rw[List.length_append,vb_len]at hl
 have hnc:=hc.nc
 have hc':=hc
 unfold vb at hc'
 rw[List.append_assoc]at hc'
 unfold F142
 refine call138 (spec138 he hc' hn h t fun h=>ifd (fun hh=>absurd hh (by dsimp only;omega)) fun _=>?_)
 have e1:IntKind.i64.wrap (((vi e.size).length:Int)+IntKind.i64.wrap (e.size:Int))=(((vi e.size).length+e.size:Nat):Int):=by
  rw[wi64 (x:=(e.size:Int)) om om,wi64 om om];omega
 dsimp only
 rw[e1,Int.toNat_natCast,Int.toNat_natCast]
 refine⟨⟨by omega,by omega,by omega⟩,⟨by omega,by omega⟩,?_⟩
 have c1:=hc.tail (p:=(vi e.size).length+e.size) om
 rw[List.drop_left' (vb_len e)]at c1
 have c3:=hc'.sub (p:=(vi e.size).length) (q:=(vi e.size).length+e.size) om om
 rw[List.drop_left' rfl,show(vi e.size).length+e.size-(vi e.size).length=e.size by omega,List.take_left' (bl_len e)]at c3
 have e2:(vi e.size).length+e.size-(vi e.size).length=e.size:=by omega
 rw[e2]
 exact k _ _ _ c3 c1 h.near
theorem spec106 {D}{x:Sl}{e:ByteArray}{rest:List Nat}{L R w}{K:Sl×Sl×Bool->WP}(he:e.size<2^28)(hc:Cont D x (vb e++rest))(hn:x.n<2^40)(h:Sat w L)(t:Take L (Own D) R)
  (k: ∀y r w',Cont D y (bl e)->Cont D r rest->Sat w' L->K (y,r,true) w'):F106 x K w:=by
 unfold F106
 exact call142 (spec142 he hc hn h t k)
theorem spec105 {D}{x:Sl}{e s:ByteArray}{rest:List Nat}{L R w}{K:(Sl×Sl)×Sl×Bool->WP}(he:e.size<2^28)(hs:s.size<2^28)(hc:Cont D x (vb e++(vb s++rest)))(hn:x.n<2^40)(h:Sat w L)(t:Take L (Own D) R)
  (k: ∀y z r w',Cont D y (bl e)->Cont D z (bl s)->Cont D r rest->Sat w' L->K ((y,z),r,true) w'):F105 x K w:=by
 unfold F105
 refine NewP_run h fun n2 w h=>?_
 refine call142 (spec142 he hc hn h (.there t) fun y r w c1 c2 h=>?_)
 dsimp only
 refine St1 h rfl fun w h=>ifn (fun hh=>nomatch hh) fun _=>?_
 have hr:r.n<2^40:=by
  have h1:=c2.n;have h2:=hc.n
  rw[List.length_append]at h2
  omega
 refine call142 (spec142 hs c2 hr h (.there t) fun z r w c3 c4 h=>?_)
 dsimp only
 refine St1 h rfl fun w h=>ifn (fun hh=>nomatch hh) fun _=>LdN h (StL_of (St1 h rfl fun w h=>St1 h rfl fun w h=>LdN h ?_))
 exact k _ _ _ w c1 c3 c4 h.tail
theorem spec102 {D}{x:Sl}{kind:Nat}{e:ByteArray}{rest:List Nat}{L R w}{K:Sl×Sl×Bool->WP}(hk:kind=20\/kind=21)(he:e.size<2^28)(hr:0<rest.length)(hc:Cont D x (vb e++rest))(hn:x.n<2^40)(h:Sat w L)(t:Take L (Own D) R)
  (k: ∀y r w',Cont D y (bl e)->Cont D r rest->Sat w' L->K (y,r,true) w'):F102 (kind:Int) x K w:=by
 have hv:=vi_pos e.size
 have hl:=hc.n
 rw[List.length_append,vb_len]at hl
 have hnc:=hc.nc
 have hc':=hc
 unfold vb at hc'
 rw[List.append_assoc]at hc'
 have body: ∀w,Sat w L->CallF Tryz.prog 138 [.slice x.a x.n x.c] [(.one (.int .u64)),(.one (.int .i64))] (fun(r5:Int×Int) w=>Tr.Join (fun(s6:Unit) w=>(0<=r5.2/\r5.2<=(IntKind.i64.wrap (r5.2+(IntKind.i64.wrap r5.1)))/\(IntKind.i64.wrap (r5.2+(IntKind.i64.wrap r5.1)))<=(x.c:Int))/\(0<=(IntKind.i64.wrap (r5.2+(IntKind.i64.wrap r5.1)))/\(IntKind.i64.wrap (r5.2+(IntKind.i64.wrap r5.1)))<=(x.n:Int))/\K (⟨(sub x.a 1 r5.2.toNat ((IntKind.i64.wrap (r5.2+(IntKind.i64.wrap r5.1))).toNat) x.c).a,((IntKind.i64.wrap (r5.2+(IntKind.i64.wrap r5.1))).toNat-r5.2.toNat),(x.c-r5.2.toNat)⟩,⟨(sub x.a 1 ((IntKind.i64.wrap (r5.2+(IntKind.i64.wrap r5.1))).toNat) x.n x.c).a,(x.n-(IntKind.i64.wrap (r5.2+(IntKind.i64.wrap r5.1))).toNat),(x.c-(IntKind.i64.wrap (r5.2+(IntKind.i64.wrap r5.1))).toNat)⟩,true) w.drew) (fun J_7=>(if(decide (r5.2<=(0:Int)))=false then(if(decide ((IntKind.u64.wrap ((IntKind.u64.wrap r5.2)+r5.1))>=(IntKind.u64.wrap (x.n:Int))))=true then K (⟨none,0,0⟩,⟨none,0,0⟩,false) w else J_7 () w)else K (⟨none,0,0⟩,⟨none,0,0⟩,false) w))) w:=by
  intro w h
  refine call138 (spec138 he hc' hn h t fun h=>?_)
  have e1:IntKind.i64.wrap (((vi e.size).length:Int)+IntKind.i64.wrap (e.size:Int))=(((vi e.size).length+e.size:Nat):Int):=by
   rw[wi64 (x:=(e.size:Int)) om om,wi64 om om];omega
  have h4:=vi_len4 he
  dsimp only
  rw[e1,Int.toNat_natCast,Int.toNat_natCast,wu64n (n:=x.n) om,wu64n (n:=(vi e.size).length) om]
  refine⟨fun _ w=>Sat w L,?_,ifdf (fun hh=>absurd hh om) fun _=>ifd (fun hh=>absurd hh ?_) fun _=>h⟩
  ·intro _ w h
   refine⟨⟨by omega,by omega,by omega⟩,⟨by omega,by omega⟩,?_⟩
   have c1:=hc.tail (p:=(vi e.size).length+e.size) om
   rw[List.drop_left' (vb_len e)]at c1
   have c3:=hc'.sub (p:=(vi e.size).length) (q:=(vi e.size).length+e.size) om om
   rw[List.drop_left' rfl,show(vi e.size).length+e.size-(vi e.size).length=e.size by omega,List.take_left' (bl_len e)]at c3
   have e2:(vi e.size).length+e.size-(vi e.size).length=e.size:=by omega
   rw[e2]
   exact k _ _ _ c3 c1 h.near
  ·rw[wu64 om om];omega
 unfold F102
 rcases hk with rfl|rfl
 ·exact ife (fun hh=>absurd hh (by decide)) fun _=>⟨fun b w=>b=true/\Sat w L,fun b w ⟨hb,h⟩=>by subst hb;exact body w h,⟨rfl,h⟩⟩
 ·exact ife (fun hh=>absurd hh (by decide)) fun _=>⟨fun b w=>b=true/\Sat w L,fun b w ⟨hb,h⟩=>by subst hb;exact body w h,⟨rfl,h⟩⟩
theorem spec102d {x:Sl}{w}{K:Sl×Sl×Bool->WP}(k:K (x,⟨none,0,0⟩,true) w):F102 ((19:Nat):Int) x K w:=by
 unfold F102
 exact ife (fun _=>k) (fun hh=>absurd rfl hh)
end Go.Proofs.YtpkoddfamelnhaaGreatDoor
