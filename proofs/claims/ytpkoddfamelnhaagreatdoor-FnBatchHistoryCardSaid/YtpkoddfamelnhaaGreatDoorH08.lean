/- Part 8 of the proof of fnBatchHistory_card. Conditions: none. -/
import Derived.Test.YtpkoddfamelnhaaGreatDoorH07
set_option linter.unusedVariables false
set_option linter.unusedSimpArgs false
namespace Go.Proofs.YtpkoddfamelnhaaGreatDoor
open Go Go.Tr
open Go.IntKind (i64 u64 u32 u8)
set_option maxRecDepth 1000000
set_option linter.unusedVariables false
noncomputable section
def A260 :=au Tryz.f260 [(33,[])] []
def F260 (i1:Option Addr)(key2:Sl)(K:(Option Addr)->WP)(w:World):Prop:=LdF i1 3 tI (fun a0 w=>CallI Tryz.prog (IV.enc a0) "SeekGE" [key2.v] [tP] (fun r5 w=>StF i1 4 (.pointer r5) (fun w=>LdF i1 4 tP (fun a1 w=>(if((a1).isNone)=true then StF i1 5 (.int .i8 0) (fun w=>K none w) w else LdF i1 4 tP (fun a2 w=>CallF Tryz.prog 134 [.pointer a2] [tB] (fun(a3:Bool) w=>(if a3=true then StF i1 5 (.int .i8 0) (fun w=>LdF i1 4 tP (fun a4 w=>K a4 w) w) w else LdF i1 1 tP (fun a5 w=>LdF a5 0 tF (fun a6 w=>LdF i1 4 tP (fun a7 w=>LdF a7 0 tS (fun a8 w=>CallV Tryz.prog (FV.enc a6) [a8.v,key2.v] [ti64] (fun(a9:Int) w=>(if(decide (a9>0))=true then CallF Tryz.prog 263 [.pointer i1] [tP] (fun aa w=>K aa w) w else CallF Tryz.prog 264 [.pointer i1] [tP] (fun ab w=>Tr.Join (fun(ac:Unit) w=>LdF i1 5 ti8 (fun(ad:Int) w=>(if(ad==(-1:Int))=true then LdF i1 3 tI (fun ae w=>CallI Tryz.prog (IV.enc ae) "Next" [] [tP] (fun af w=>StF i1 4 (.pointer af) (fun w=>CallF Tryz.prog 263 [.pointer i1] [tP] (fun ag w=>K ag w) w) w) w) w else CallF Tryz.prog 263 [.pointer i1] [tP] (fun ah w=>K ah w) w)) w) (fun ai=>LdF i1 4 tP (fun aj w=>(if((aj).isNone)=true then LdF i1 3 tI (fun ak w=>CallI Tryz.prog (IV.enc ak) "Error" [] [tI] (fun al w=>IsI (IV.enc al)/\(if(!(isNilI (IV.enc al)))=true then K none w else ai () w)) w) w else ai () w)) w)) w)) w) w) w) w) w.drew)) w) w)) w) w) w) w
theorem call260 {i1 key2 K w}(h:F260 i1 key2 K w):CallF Tryz.prog 260 [.pointer i1,key2.v] [tP] K w:=ctr Tryz.func260 A260 (by kernel_rfl) (by kernel_rfl) h
def A262 :=au Tryz.f262 [] [(18,[(81,ti64)])]
def F262 (i1:Option Addr)(K:Unit->WP)(w:World):Prop:=LdF i1 0 tP (fun a0 w=>LdF a0 0 tS (fun a1 w=>CallF Tryz.prog 194 [a1.v] [tS] (fun r6 w=>LdF i1 0 tP (fun a2 w=>LdF i1 0 tP (fun a3 w=>LdF a3 1 tS (fun a4 w=>(0<=(0:Int)/\(0:Int)<=(a4.c:Int))/\StF a2 1 (.slice a4.a 0 a4.c) (fun w=>LdF i1 0 tP (fun a5 w=>LdF i1 0 tP (fun a6 w=>LdF a6 2 tS (fun a7 w=>(0<=(0:Int)/\(0:Int)<=(a7.c:Int))/\StF a5 2 (.slice a7.a 0 a7.c) (fun w=>LdF i1 4 tP (fun a8 w=>(if((a8).isNone)=true then K () w else LdF i1 4 tP (fun a9 w=>LdF a9 0 tS (fun aa w=> ∃ab,i1=some ab/\Ld tP (ab.add 4) (fun ac w=> ∃ad,ac=some ad/\Ld tS (ad.add 1) (fun ae w=> ∃af,i1=some af/\Ld tP (af.add 4) (fun ag w=> ∃ah,ag=some ah/\Ld ti8 (ah.add 3) (fun(ai:Int) w=>CallF Tryz.prog 266 [.pointer i1,aa.v] [tS] (fun aj w=>LdAt ti8 (ah.add 3) ai w/\LdAt tP (af.add 4) ag w/\LdAt tS (ad.add 1) ae w/\LdAt tP (ab.add 4) ac w/\CallF Tryz.prog 266 [.pointer i1,ae.v] [tS] (fun ak w=>LdAt ti8 (ah.add 3) ai w/\LdAt tP (af.add 4) ag w/\ ∃al,i1=some al/\StL (al.add 6) [aj.v,ak.v,.slice none 0 0,.int .i8 ai] (fun w=>LdF i1 4 tP (fun am w=>LdF am 2 tS (fun an w=>Tr.Loop (fun(ao:Int->WP) (s42:Int) w=>(if(decide (s42<(an.n:Int)))=true then∃ap,i1=some ap/\Ld tP (ap.add 0) (fun aq w=> ∃ar,i1=some ar/\Ld tP (ar.add 0) (fun au w=> ∃av,au=some av/\Ld tS (av.add 1) (fun ax w=> ∃ay,i1=some ay/\Ld tP (ay.add 4) (fun az w=> ∃b,az=some b/\Ld tS (b.add 2) (fun b0 w=>(0<=s42/\s42<(b0.n:Int))/\(∃b1,b0.a=some b1/\Ld tu64 ((b1.add (s42.toNat*3)).add 0) (fun(b2:Int) w=>LdF i1 4 tP (fun b3 w=>LdF b3 2 tS (fun b4 w=>(0<=s42/\s42<(b4.n:Int))/\(∃b5,b4.a=some b5/\Ld tS ((b5.add (s42.toNat*3)).add 1) (fun b6 w=> ∃b7,i1=some b7/\Ld tP (b7.add 4) (fun b8 w=> ∃b9,b8=some b9/\Ld tS (b9.add 2) (fun ba w=>(0<=s42/\s42<(ba.n:Int))/\(∃bb,ba.a=some bb/\Ld tS ((bb.add (s42.toNat*3)).add 2) (fun bc w=>CallF Tryz.prog 266 [.pointer i1,b6.v] [tS] (fun bd w=>LdAt tS ((bb.add (s42.toNat*3)).add 2) bc w/\LdAt tS (b9.add 2) ba w/\LdAt tP (b7.add 4) b8 w/\LdAt tu64 ((b1.add (s42.toNat*3)).add 0) b2 w/\LdAt tS (b.add 2) b0 w/\LdAt tP (ay.add 4) az w/\LdAt tS (av.add 1) ax w/\LdAt tP (ar.add 0) au w/\LdAt tP (ap.add 0) aq w/\CallF Tryz.prog 266 [.pointer i1,bc.v] [tS] (fun be w=>LdAt tu64 ((b1.add (s42.toNat*3)).add 0) b2 w/\LdAt tS (b.add 2) b0 w/\LdAt tP (ay.add 4) az w/\LdAt tS (av.add 1) ax w/\LdAt tP (ar.add 0) au w/\LdAt tP (ap.add 0) aq w/\NewS [.int .u64 b2,bd.v,be.v] 267 1 (fun bf w=>LdAt tS (av.add 1) ax w/\LdAt tP (ar.add 0) au w/\LdAt tP (ap.add 0) aq w/\AppP si109 ax bf (fun bg w=>LdAt tP (ap.add 0) aq w/\StF aq 1 (bg.v) (fun w=>ao (i64.wrap (s42+1)) w) w) w) w) w) w) w)) w) w) w)) w) w) w)) w) w) w) w) w.drew else LdF i1 0 tP (fun bh w=>LdF bh 1 tS (fun bi w=> ∃bj,i1=some bj/\St ((bj.add 6).add 2) (bi.v) (fun w=>K () w) w) w) w)) (0:Int) w) w) w) w) w) w) w) w) w) w) w) w.drew)) w) w) w) w) w.drew) w) w) w) w.drew) w) w) w
theorem call262 {i1 K w}(h:F262 i1 K w):CallF Tryz.prog 262 [.pointer i1] [] K w:=ctr Tryz.func262 A262 (by kernel_rfl) (by kernel_rfl) h
def A263 :=au Tryz.f263 [(19,[])] [(20,[])]
def F263 (i1:Option Addr)(K:(Option Addr)->WP)(w:World):Prop:=LdF i1 4 tP (fun a0 w=>CallF Tryz.prog 134 [.pointer a0] [tB] (fun(r4:Bool) w=>(if r4=true then StF i1 5 (.int .i8 0) (fun w=>LdF i1 4 tP (fun a1 w=>K a1 w) w) w else CallF Tryz.prog 262 [.pointer i1] [] (fun r8 w=>StF i1 5 (.int .i8 1) (fun w=>LdF i1 3 tI (fun a2 w=>CallI Tryz.prog (IV.enc a2) "Next" [] [tP] (fun a3 w=>StF i1 4 (.pointer a3) (fun w=>Tr.Join (fun(a4:Unit) w=>LdF i1 3 tI (fun a5 w=>CallI Tryz.prog (IV.enc a5) "Error" [] [tI] (fun a6 w=>IsI (IV.enc a6)/\(if(!(isNilI (IV.enc a6)))=true then K none w else LdF i1 0 tP (fun a7 w=>LdF a7 1 tS (fun a8 w=> ∃a9,i1=some a9/\St ((a9.add 6).add 2) (a8.v) (fun w=> ∃aa,i1=some aa/\K (some (aa.add 6)) w) w) w) w)) w) w) (fun ab=>Tr.Loop (fun(ac:Unit->WP) (s25:Unit) w=>LdF i1 4 tP (fun ad w=>(if(!(ad).isNone)=true then LdF i1 2 tF (fun ae w=> ∃af,i1=some af/\Ld tS ((af.add 6).add 1) (fun ag w=>LdF i1 4 tP (fun ah w=>LdF ah 0 tS (fun ai w=>CallV Tryz.prog (FV.enc ae) [ag.v,ai.v] [tB] (fun(aj:Bool) w=>(if(!aj)=true then ab () w else LdF i1 4 tP (fun ak w=> ∃al,i1=some al/\CallF Tryz.prog 265 [.pointer i1,.pointer ak,.pointer (some (al.add 6))] [tB] (fun(am:Bool) w=>(if(!am)=true then ab () w else∃an,i1=some an/\Ld tP (an.add 0) (fun ao w=>LdF i1 0 tP (fun ap w=>LdF ap 2 tS (fun aq w=>(0<=(0:Int)/\(0:Int)<=(aq.c:Int))/\LdF i1 4 tP (fun ar w=>LdF ar 1 tS (fun au w=>AppP si87 ⟨aq.a,0,aq.c⟩ au (fun av w=>LdAt tP (an.add 0) ao w/\StF ao 2 (av.v) (fun w=>LdF i1 0 tP (fun ax w=>LdF ax 2 tS (fun ay w=> ∃az,i1=some az/\St ((az.add 6).add 1) (ay.v) (fun w=> ∃b,i1=some b/\Ld tP (b.add 0) (fun b0 w=>LdF i1 11 tF (fun b1 w=>LdF i1 0 tP (fun b2 w=>LdF b2 1 tS (fun b3 w=>LdF i1 4 tP (fun b4 w=>LdF b4 2 tS (fun b5 w=>CallV Tryz.prog (FV.enc b1) [b3.v,b5.v] [tS] (fun b6 w=>LdAt tP (b.add 0) b0 w/\StF b0 1 (b6.v) (fun w=>LdF i1 3 tI (fun b7 w=>CallI Tryz.prog (IV.enc b7) "Next" [] [tP] (fun b8 w=>StF i1 4 (.pointer b8) (fun w=>ac () w) w) w) w) w) w) w) w) w) w) w) w.drew) w) w) w) w) w) w) w) w) w) w.drew)) w) w.drew)) w) w) w) w) w.drew else ab () w)) w) () w)) w) w) w) w) w)) w) w
theorem call263 {i1 K w}(h:F263 i1 K w):CallF Tryz.prog 263 [.pointer i1] [tP] K w:=ctr Tryz.func263 A263 (by kernel_rfl) (by kernel_rfl) h
def A264 :=au Tryz.f264 [(19,[])] [(20,[])]
def F264 (i1:Option Addr)(K:(Option Addr)->WP)(w:World):Prop:=LdF i1 4 tP (fun a0 w=>CallF Tryz.prog 134 [.pointer a0] [tB] (fun(r4:Bool) w=>(if r4=true then StF i1 5 (.int .i8 0) (fun w=>LdF i1 4 tP (fun a1 w=>K a1 w) w) w else CallF Tryz.prog 262 [.pointer i1] [] (fun r8 w=>StF i1 5 (.int .i8 (-1:Int)) (fun w=>LdF i1 3 tI (fun a2 w=>CallI Tryz.prog (IV.enc a2) "Prev" [] [tP] (fun a3 w=>StF i1 4 (.pointer a3) (fun w=>Tr.Join (fun(a4:Unit) w=>LdF i1 3 tI (fun a5 w=>CallI Tryz.prog (IV.enc a5) "Error" [] [tI] (fun a6 w=>IsI (IV.enc a6)/\(if(!(isNilI (IV.enc a6)))=true then K none w else LdF i1 0 tP (fun a7 w=>LdF a7 1 tS (fun a8 w=> ∃a9,i1=some a9/\St ((a9.add 6).add 2) (a8.v) (fun w=> ∃aa,i1=some aa/\K (some (aa.add 6)) w) w) w) w)) w) w) (fun ab=>Tr.Loop (fun(ac:Unit->WP) (s25:Unit) w=>LdF i1 4 tP (fun ad w=>(if(!(ad).isNone)=true then LdF i1 2 tF (fun ae w=> ∃af,i1=some af/\Ld tS ((af.add 6).add 0) (fun ag w=>LdF i1 4 tP (fun ah w=>LdF ah 1 tS (fun ai w=>CallV Tryz.prog (FV.enc ae) [ag.v,ai.v] [tB] (fun(aj:Bool) w=>(if(!aj)=true then ab () w else LdF i1 4 tP (fun ak w=> ∃al,i1=some al/\CallF Tryz.prog 265 [.pointer i1,.pointer ak,.pointer (some (al.add 6))] [tB] (fun(am:Bool) w=>(if(!am)=true then ab () w else∃an,i1=some an/\Ld tP (an.add 0) (fun ao w=>LdF i1 0 tP (fun ap w=>LdF ap 2 tS (fun aq w=>(0<=(0:Int)/\(0:Int)<=(aq.c:Int))/\LdF i1 4 tP (fun ar w=>LdF ar 0 tS (fun au w=>AppP si87 ⟨aq.a,0,aq.c⟩ au (fun av w=>LdAt tP (an.add 0) ao w/\StF ao 2 (av.v) (fun w=>LdF i1 0 tP (fun ax w=>LdF ax 2 tS (fun ay w=> ∃az,i1=some az/\St ((az.add 6).add 0) (ay.v) (fun w=> ∃b,i1=some b/\Ld tP (b.add 0) (fun b0 w=>LdF i1 11 tF (fun b1 w=>LdF i1 0 tP (fun b2 w=>LdF b2 1 tS (fun b3 w=>LdF i1 4 tP (fun b4 w=>LdF b4 2 tS (fun b5 w=>CallV Tryz.prog (FV.enc b1) [b3.v,b5.v] [tS] (fun b6 w=>LdAt tP (b.add 0) b0 w/\StF b0 1 (b6.v) (fun w=>LdF i1 3 tI (fun b7 w=>CallI Tryz.prog (IV.enc b7) "Prev" [] [tP] (fun b8 w=>StF i1 4 (.pointer b8) (fun w=>ac () w) w) w) w) w) w) w) w) w) w) w) w.drew) w) w) w) w) w) w) w) w) w) w.drew)) w) w.drew)) w) w) w) w) w.drew else ab () w)) w) () w)) w) w) w) w) w)) w) w
theorem call264 {i1 K w}(h:F264 i1 K w):CallF Tryz.prog 264 [.pointer i1] [tP] K w:=ctr Tryz.func264 A264 (by kernel_rfl) (by kernel_rfl) h
def A265 :=au Tryz.f265 [] []
def F265 (i1:Option Addr)(left2:Option Addr)(right3:Option Addr)(K:Bool->WP)(w:World):Prop:=CallF Tryz.prog 134 [.pointer left2] [tB] (fun(r4:Bool) w=>(if(!r4)=true then CallF Tryz.prog 134 [.pointer right3] [tB] (fun(r5:Bool) w=>(if(!r5)=true then LdF i1 10 tI (fun a w=>LdF i1 2 tF (fun a0 w=>LdF i1 4 tP (fun a1 w=> ∃a2,i1=some a2/\NotNil (IV.enc a)/\CallI Tryz.prog (IV.enc a) "ShouldDefragment" [(FV.enc a0),.pointer a1,.pointer (some (a2.add 6))] [tB] (fun(a3:Bool) w=>K a3 w) w) w) w) w else K false w)) w else K false w)) w.drew
theorem call265 {i1 left2 right3 K w}(h:F265 i1 left2 right3 K w):CallF Tryz.prog 265 [.pointer i1,.pointer left2,.pointer right3] [tB] K w:=ctr Tryz.func265 A265 (by kernel_rfl) (by kernel_rfl) h
def A266 :=au Tryz.f266 [] []
def F266 (i1:Option Addr)(b2:Sl)(K:Sl->WP)(w:World):Prop:=(if((b2.a).isNone)=true then K ⟨none,0,0⟩ w else∃p3,i1=some p3/\Ld tP (p3.add 0) (fun a0 w=>LdF i1 0 tP (fun a1 w=>LdF a1 0 tS (fun a2 w=>CallF Tryz.prog 267 [a2.v,b2.v] [tS,tS] (fun r9 w=>LdAt tP (p3.add 0) a0 w/\StF a0 0 (r9.1.v) (fun w=>K r9.2 w) w) w) w) w) w.drew)
theorem call266 {i1 b2 K w}(h:F266 i1 b2 K w):CallF Tryz.prog 266 [.pointer i1,b2.v] [tS] K w:=ctr Tryz.func266 A266 (by kernel_rfl) (by kernel_rfl) h
def A267 :=au Tryz.f267 [] []
def F267 (a1:Sl)(src2:Sl)(K:(Sl×Sl)->WP)(w:World):Prop:=CallF Tryz.prog 268 [a1.v,.int .i64 (src2.n:Int)] [tS,tS] (fun r3 w=>CopyP si87 r3.2 src2 (fun(c4:Int) w=>K (r3.1,r3.2) w) w) w
theorem call267 {a1 src2 K w}(h:F267 a1 src2 K w):CallF Tryz.prog 267 [a1.v,src2.v] [tS,tS] K w:=ctr Tryz.func267 A267 (by kernel_rfl) (by kernel_rfl) h
def A268 :=au Tryz.f268 [(3,[(0,tS)])] []
def F268 (a1:Sl)(n2:Int)(K:(Sl×Sl)->WP)(w:World):Prop:=Tr.Join (fun(s3:Sl) w=>(0<=(s3.n:Int)/\(s3.n:Int)<=(i64.wrap ((s3.n:Int)+n2))/\(i64.wrap ((s3.n:Int)+n2))<=(i64.wrap ((s3.n:Int)+n2))/\(i64.wrap ((s3.n:Int)+n2))<=(s3.c:Int))/\(0<=(i64.wrap ((s3.n:Int)+n2))/\(i64.wrap ((s3.n:Int)+n2))<=(s3.c:Int))/\K (⟨s3.a,(i64.wrap ((s3.n:Int)+n2)).toNat,s3.c⟩,⟨(sub s3.a 1 s3.n ((i64.wrap ((s3.n:Int)+n2)).toNat) ((i64.wrap ((s3.n:Int)+n2)).toNat)).a,((i64.wrap ((s3.n:Int)+n2)).toNat-s3.n),((i64.wrap ((s3.n:Int)+n2)).toNat-s3.n)⟩) w) (fun a0=>(if(decide ((i64.wrap ((a1.c:Int)-(a1.n:Int)))<n2))=true then CallF Tryz.prog 269 [a1.v,.int .i64 n2] [tS] (fun r5 w=>a0 r5 w) w else a0 a1 w))
theorem call268 {a1 n2 K w}(h:F268 a1 n2 K w):CallF Tryz.prog 268 [a1.v,.int .i64 n2] [tS,tS] K w:=ctr Tryz.func268 A268 (by kernel_rfl) (by kernel_rfl) h
def A269 :=au Tryz.f269 [(5,[(5,ti64)])] []
def F269 (a1:Sl)(n2:Int)(K:Sl->WP)(w:World):Prop:=Tr.Join (fun(s3:Int) w=>(if(decide (s3<n2))=true then MakeP si87 (0:Int) n2 (fun m5 w=>K m5 w) w else MakeP si87 (0:Int) s3 (fun m6 w=>K m6 w) w)) (fun a=>(if(decide ((i64.wrap ((a1.c:Int)*(2:Int)))<512))=true then a (512:Int) w else(if(decide ((i64.wrap ((a1.c:Int)*(2:Int)))>524288))=true then a (524288:Int) w else a (i64.wrap ((a1.c:Int)*(2:Int))) w)))
theorem call269 {a1 n2 K w}(h:F269 a1 n2 K w):CallF Tryz.prog 269 [a1.v,.int .i64 n2] [tS] K w:=ctr Tryz.func269 A269 (by kernel_rfl) (by kernel_rfl) h
def A271 :=au Tryz.f271 [] []
def F271 (i1:Option Addr)(K:IV->WP)(w:World):Prop:=decI .nilIface (fun i2=>K i2 w)
theorem call271 {i1 K w}(h:F271 i1 K w):CallF Tryz.prog 271 [.pointer i1] [tI] K w:=ctr Tryz.func271 A271 (by kernel_rfl) (by kernel_rfl) h
def A272 :=au Tryz.f272 [] []
def F272 (i1:Option Addr)(K:(Option Addr)->WP)(w:World):Prop:=LdF i1 1 tS (fun a0 w=>(if((a0.n:Int)==0)=true then K none w else StF i1 2 (.int .i64 0) (fun w=>LdF i1 1 tS (fun a1 w=>LdF i1 2 ti64 (fun(a2:Int) w=>(0<=a2/\a2<(a1.n:Int))/\(∃e9,a1.a=some e9/\K (some (e9.add (a2.toNat*4))) w)) w) w.drew) w)) w
theorem call272 {i1 K w}(h:F272 i1 K w):CallF Tryz.prog 272 [.pointer i1] [tP] K w:=ctr Tryz.func272 A272 (by kernel_rfl) (by kernel_rfl) h
def A274 :=au Tryz.f274 [] []
def F274 (i1:Option Addr)(K:(Option Addr)->WP)(w:World):Prop:=LdF i1 2 ti64 (fun(a0:Int) w=>LdF i1 1 tS (fun a1 w=>(if(decide (a0>=(a1.n:Int)))=true then K none w else LdF i1 2 ti64 (fun(a2:Int) w=>StF i1 2 (.int .i64 (i64.wrap (a2+1))) (fun w=>LdF i1 2 ti64 (fun(a3:Int) w=>LdF i1 1 tS (fun a4 w=>(if(decide (a3>=(a4.n:Int)))=true then K none w else LdF i1 1 tS (fun a5 w=>LdF i1 2 ti64 (fun(a6:Int) w=>(0<=a6/\a6<(a5.n:Int))/\(∃a7,a5.a=some a7/\K (some (a7.add (a6.toNat*4))) w)) w) w.drew)) w) w.drew) w) w)) w) w.drew
theorem call274 {i1 K w}(h:F274 i1 K w):CallF Tryz.prog 274 [.pointer i1] [tP] K w:=ctr Tryz.func274 A274 (by kernel_rfl) (by kernel_rfl) h
def A275 :=au Tryz.f275 [] []
def F275 (i1:Option Addr)(K:(Option Addr)->WP)(w:World):Prop:=LdF i1 2 ti64 (fun(a0:Int) w=>(if(decide (a0<0))=true then K none w else LdF i1 2 ti64 (fun(a1:Int) w=>StF i1 2 (.int .i64 (i64.wrap (a1-1))) (fun w=>LdF i1 2 ti64 (fun(a2:Int) w=>(if(decide (a2<0))=true then K none w else LdF i1 1 tS (fun a3 w=>LdF i1 2 ti64 (fun(a4:Int) w=>(0<=a4/\a4<(a3.n:Int))/\(∃a5,a3.a=some a5/\K (some (a5.add (a4.toNat*4))) w)) w) w.drew)) w) w) w)) w
theorem call275 {i1 K w}(h:F275 i1 K w):CallF Tryz.prog 275 [.pointer i1] [tP] K w:=ctr Tryz.func275 A275 (by kernel_rfl) (by kernel_rfl) h
def A277 :=au Tryz.f277 [] [(8,[(5,ti64)])]
def F277 (i1:Option Addr)(key2:Sl)(K:(Option Addr)->WP)(w:World):Prop:=StF i1 2 (.int .i64 0) (fun w=>LdF i1 1 tS (fun a0 w=>Tr.Loop (fun(a1:Int->WP) (s6:Int) w=>LdF i1 2 ti64 (fun(a2:Int) w=>(if(decide (a2<s6))=true then LdF i1 2 ti64 (fun(a3:Int) w=>0<=(1:Int)/\LdF i1 0 tF (fun a4 w=>LdF i1 1 tS (fun a5 w=>(0<=(i64.wrap (((u64.wrap (i64.wrap (a3+s6)))).fdiv (2^(min 1 IntKind.u64.bits))))/\(i64.wrap (((u64.wrap (i64.wrap (a3+s6)))).fdiv (2^(min 1 IntKind.u64.bits))))<(a5.n:Int))/\(∃a6,a5.a=some a6/\Ld tS ((a6.add ((i64.wrap (((u64.wrap (i64.wrap (a3+s6)))).fdiv (2^(min 1 IntKind.u64.bits)))).toNat*4)).add 0) (fun a7 w=>CallV Tryz.prog (FV.enc a4) [key2.v,a7.v] [ti64] (fun(a8:Int) w=>(if(decide (a8>0))=true then StF i1 2 (.int .i64 (i64.wrap ((i64.wrap (((u64.wrap (i64.wrap (a3+s6)))).fdiv (2^(min 1 IntKind.u64.bits))))+1))) (fun w=>a1 s6 w) w else a1 (i64.wrap (((u64.wrap (i64.wrap (a3+s6)))).fdiv (2^(min 1 IntKind.u64.bits)))) w)) w) w)) w) w.drew) w else LdF i1 2 ti64 (fun(a9:Int) w=>StF i1 2 (.int .i64 (i64.wrap (a9-1))) (fun w=>LdF i1 2 ti64 (fun(aa:Int) w=>(if(decide (aa<0))=true then K none w else LdF i1 1 tS (fun ab w=>LdF i1 2 ti64 (fun(ac:Int) w=>(0<=ac/\ac<(ab.n:Int))/\(∃ad,ab.a=some ad/\K (some (ad.add (ac.toNat*4))) w)) w) w.drew)) w) w) w)) w) (a0.n:Int) w) w) w
theorem call277 {i1 key2 K w}(h:F277 i1 key2 K w):CallF Tryz.prog 277 [.pointer i1,key2.v] [tP] K w:=ctr Tryz.func277 A277 (by kernel_rfl) (by kernel_rfl) h
def A279 :=au Tryz.f279 [] []
def F279 (i1:Option Addr)(K:IV->WP)(w:World):Prop:=LdF i1 7 tI (fun a w=>decI (IV.enc a) (fun i4=>K i4 w)) w
theorem call279 {i1 K w}(h:F279 i1 K w):CallF Tryz.prog 279 [.pointer i1] [tI] K w:=ctr Tryz.func279 A279 (by kernel_rfl) (by kernel_rfl) h
def A280 :=au Tryz.f280 [(18,[(47,tB)])] []
def F280 (i1:Option Addr)(K:(Option Addr×Sl×Option Addr)->WP)(w:World):Prop:=NewP [.slice none 0 0,.pointer none] 90 (fun n2 w=>StF i1 7 .nilIface (fun w=>LdF i1 2 tS (fun a0 w=>(if((a0.n:Int)==0)=true then StL n2 [.slice none 0 0,.pointer none] (fun w=>Ld (.agg [.sl,.ptr]) n2 (fun r6 w=>K (none,(r6.1,r6.2)) w) w) w else StF i1 4 (.int .i64 0) (fun w=>LdF i1 4 ti64 (fun(a1:Int) w=>CallF Tryz.prog 290 [.pointer i1,.int .i64 a1] [(.agg [.sl,.int .u64])] (fun(a2:Sl×Int) w=> ∃a3,i1=some a3/\StL (a3.add 5) [a2.1.v,.int .u64 a2.2] (fun w=>Tr.Join (fun(a4:Bool) w=>(if a4=true then LdF i1 2 tS (fun a5 w=>StF i1 4 (.int .i64 (a5.n:Int)) (fun w=>StL n2 [.slice none 0 0,.pointer none] (fun w=>Ld (.agg [.sl,.ptr]) n2 (fun a6 w=>K (none,(a6.1,a6.2)) w) w) w) w) w else∃a7,i1=some a7/\CallF Tryz.prog 291 [.pointer i1] [(.agg [.sl,.ptr])] (fun a8 w=>StL n2 [a8.1.v,.pointer a8.2] (fun w=>Ld (.agg [.sl,.ptr]) n2 (fun a9 w=>K ((some (a7.add 5)),(a9.1,a9.2)) w) w) w) w.drew)) (fun aa=>LdF i1 9 tS (fun ab w=>(if(!(ab.a).isNone)=true then LdF i1 3 tF (fun ac w=> ∃ad,i1=some ad/\Ld tS ((ad.add 5).add 0) (fun ae w=>LdF i1 9 tS (fun af w=>CallV Tryz.prog (FV.enc ac) [ae.v,af.v] [ti64] (fun(ag:Int) w=>aa (decide (ag>=(0:Int))) w) w) w) w) w else aa false w)) w.drew)) w) w) w) w)) w) w) w
theorem call280 {i1 K w}(h:F280 i1 K w):CallF Tryz.prog 280 [.pointer i1] [tP,(.agg [.sl,.ptr])] K w:=ctr Tryz.func280 A280 (by kernel_rfl) (by kernel_rfl) h
def A282 :=au Tryz.f282 [(24,[(63,tB)])] []
def F282 (i1:Option Addr)(K:(Option Addr×Sl×Option Addr)->WP)(w:World):Prop:=NewP [.slice none 0 0,.pointer none] 90 (fun n2 w=>LdF i1 4 ti64 (fun(a0:Int) w=>LdF i1 2 tS (fun a1 w=>(if(a0==(a1.n:Int))=true then StL n2 [.slice none 0 0,.pointer none] (fun w=>Ld (.agg [.sl,.ptr]) n2 (fun r7 w=>K (none,(r7.1,r7.2)) w) w) w else LdF i1 4 ti64 (fun(a2:Int) w=>StF i1 4 (.int .i64 (i64.wrap (a2+1))) (fun w=>LdF i1 4 ti64 (fun(a3:Int) w=>LdF i1 2 tS (fun a4 w=>(if(a3==(a4.n:Int))=true then StL n2 [.slice none 0 0,.pointer none] (fun w=>Ld (.agg [.sl,.ptr]) n2 (fun a5 w=>K (none,(a5.1,a5.2)) w) w) w else LdF i1 4 ti64 (fun(a6:Int) w=>CallF Tryz.prog 290 [.pointer i1,.int .i64 a6] [(.agg [.sl,.int .u64])] (fun(a7:Sl×Int) w=> ∃a8,i1=some a8/\StL (a8.add 5) [a7.1.v,.int .u64 a7.2] (fun w=>Tr.Join (fun(a9:Bool) w=>(if a9=true then LdF i1 2 tS (fun aa w=>StF i1 4 (.int .i64 (aa.n:Int)) (fun w=>StL n2 [.slice none 0 0,.pointer none] (fun w=>Ld (.agg [.sl,.ptr]) n2 (fun ab w=>K (none,(ab.1,ab.2)) w) w) w) w) w else∃ac,i1=some ac/\CallF Tryz.prog 291 [.pointer i1] [(.agg [.sl,.ptr])] (fun ad w=>StL n2 [ad.1.v,.pointer ad.2] (fun w=>Ld (.agg [.sl,.ptr]) n2 (fun ae w=>K ((some (ac.add 5)),(ae.1,ae.2)) w) w) w) w.drew)) (fun af=>LdF i1 9 tS (fun ag w=>(if(!(ag.a).isNone)=true then LdF i1 3 tF (fun ah w=> ∃ai,i1=some ai/\Ld tS ((ai.add 5).add 0) (fun aj w=>LdF i1 9 tS (fun ak w=>CallV Tryz.prog (FV.enc ah) [aj.v,ak.v] [ti64] (fun(al:Int) w=>af (decide (al>=(0:Int))) w) w) w) w) w else af false w)) w.drew)) w) w) w)) w) w.drew) w) w)) w) w.drew) w
theorem call282 {i1 K w}(h:F282 i1 K w):CallF Tryz.prog 282 [.pointer i1] [tP,(.agg [.sl,.ptr])] K w:=ctr Tryz.func282 A282 (by kernel_rfl) (by kernel_rfl) h
def A290 :=au Tryz.f290 [] []
def F290 (i1:Option Addr)(index2:Int)(K:(Sl×Int)->WP)(w:World):Prop:=NewP [.slice none 0 0,.int .u64 0] 97 (fun n3 w=>LdF i1 2 tS (fun a0 w=>(0<=index2/\index2<(a0.n:Int))/\(∃e6,a0.a=some e6/\LdF i1 1 tS (fun a1 w=> ∃p9,(some (e6.add (index2.toNat*4)))=some p9/\Ld tu32 (p9.add 0) (fun(a2:Int) w=>(0<=a2/\a2<(a1.n:Int))/\(∃a3,a1.a=some a3/\Ld tu8 (a3.add (a2.toNat*1)) (fun(a4:Int) w=>LdF i1 1 tS (fun a5 w=> ∃a6,(some (e6.add (index2.toNat*4)))=some a6/\Ld tu32 (a6.add 2) (fun(a7:Int) w=> ∃a8,(some (e6.add (index2.toNat*4)))=some a8/\Ld tu32 (a8.add 3) (fun(a9:Int) w=>(0<=a7/\a7<=a9/\a9<=(a5.c:Int))/\LdF i1 0 tP (fun aa w=>LdF aa 3 tu64 (fun(ab:Int) w=> ∃ac,(some (e6.add (index2.toNat*4)))=some ac/\Ld tu32 (ac.add 1) (fun(ad:Int) w=>CallF Tryz.prog 165 [.slice ((sub a5.a 1 a7.toNat a9.toNat a5.c).a) (a9.toNat-a7.toNat) (a5.c-a7.toNat),.int .u64 (u64.wrap (ab+(u64.wrap ad))),.int .u8 a4] [(.agg [.sl,.int .u64])] (fun(ae:Sl×Int) w=>StL n3 [ae.1.v,.int .u64 ae.2] (fun w=>Ld (.agg [.sl,.int .u64]) n3 (fun(af:Sl×Int) w=>K (af.1,af.2) w) w) w) w) w) w) w.drew) w) w) w.drew) w)) w) w.drew)) w) w
theorem call290 {i1 index2 K w}(h:F290 i1 index2 K w):CallF Tryz.prog 290 [.pointer i1,.int .i64 index2] [(.agg [.sl,.int .u64])] K w:=ctr Tryz.func290 A290 (by kernel_rfl) (by kernel_rfl) h
def A291 :=au Tryz.f291 [(35,[(43,tB)])] []
def F291 (i1:Option Addr)(K:(Sl×Option Addr)->WP)(w:World):Prop:=NewP [.slice none 0 0,.pointer none] 90 (fun n2 w=>LdF i1 1 tS (fun a0 w=>LdF i1 2 tS (fun a1 w=>LdF i1 4 ti64 (fun(a2:Int) w=>(0<=a2/\a2<(a1.n:Int))/\(∃e9,a1.a=some e9/\Ld tu32 ((e9.add (a2.toNat*4)).add 0) (fun(a3:Int) w=>(0<=a3/\a3<=(a0.n:Int))/\(if((((a0.n-a3.toNat):Nat):Int)==0)=true then CallF Tryz.prog 104 [.string (⟨#[99,111,114,114,117,112,116,101,100,32,98,97,116,99,104]⟩),.slice none 0 0] [tI] (fun a4 w=>StF i1 7 (IV.enc a4) (fun w=>StL n2 [.slice none 0 0,.pointer none] (fun w=>Ld (.agg [.sl,.ptr]) n2 (fun a5 w=>K (a5.1,a5.2) w) w) w) w) w else(0<=(0:Int)/\(0:Int)<(((a0.n-a3.toNat):Nat):Int))/\(∃a6,(sub a0.a 1 a3.toNat a0.n a0.c).a=some a6/\Ld tu8 (a6.add (0*1)) (fun(a7:Int) w=>(if(decide (a7>23))=true then CallF Tryz.prog 104 [.string (⟨#[99,111,114,114,117,112,116,101,100,32,98,97,116,99,104]⟩),.slice none 0 0] [tI] (fun a8 w=>StF i1 7 (IV.enc a8) (fun w=>StL n2 [.slice none 0 0,.pointer none] (fun w=>Ld (.agg [.sl,.ptr]) n2 (fun a9 w=>K (a9.1,a9.2) w) w) w) w) w else Tr.Join (fun(aa:Bool) w=>(if aa=true then LdF i1 2 tS (fun ab w=>LdF i1 4 ti64 (fun(ac:Int) w=>(0<=ac/\ac<(ab.n:Int))/\(∃ad,ab.a=some ad/\Ld tu32 ((ad.add (ac.toNat*4)).add 3) (fun(ae:Int) w=>LdF i1 1 tS (fun af w=>(0<=ae/\ae<=(af.n:Int))/\CallF Tryz.prog 130 [.slice ((sub af.a 1 ae.toNat af.n af.c).a) (af.n-ae.toNat) (af.c-ae.toNat)] [tS,tS,tB] (fun(ag:Sl×Sl×Bool) w=>(if(!ag.2.2)=true then CallF Tryz.prog 104 [.string (⟨#[99,111,114,114,117,112,116,101,100,32,98,97,116,99,104]⟩),.slice none 0 0] [tI] (fun ah w=>StF i1 7 (IV.enc ah) (fun w=>StL n2 [.slice none 0 0,.pointer none] (fun w=>Ld (.agg [.sl,.ptr]) n2 (fun ai w=>K (ai.1,ai.2) w) w) w) w) w else CallF Tryz.prog 297 [ag.2.1.v] [(.agg [.sl,.ptr])] (fun aj w=>StL n2 [aj.1.v,.pointer aj.2] (fun w=>Ld (.agg [.sl,.ptr]) n2 (fun ak w=>K (ak.1,ak.2) w) w) w) w)) w) w) w)) w) w.drew else CallF Tryz.prog 297 [.slice none 0 0] [(.agg [.sl,.ptr])] (fun al w=>StL n2 [al.1.v,.pointer al.2] (fun w=>Ld (.agg [.sl,.ptr]) n2 (fun am w=>K (am.1,am.2) w) w) w) w)) (fun an=>(if(a7==1)=true then an (a7==1) w else(if(a7==2)=true then an (a7==2) w else(if(a7==15)=true then an (a7==15) w else(if(a7==21)=true then an (a7==21) w else(if(a7==20)=true then an (a7==20) w else(if(a7==19)=true then an (a7==19) w else an (a7==23) w))))))))) w))) w)) w) w) w.drew) w
theorem call291 {i1 K w}(h:F291 i1 K w):CallF Tryz.prog 291 [.pointer i1] [(.agg [.sl,.ptr])] K w:=ctr Tryz.func291 A291 (by kernel_rfl) (by kernel_rfl) h
def A297 :=au Tryz.f297 [] []
def F297 (val1:Sl)(K:(Sl×Option Addr)->WP)(w:World):Prop:=NewP [.slice none 0 0,.pointer none] 90 (fun n2 w=>StL n2 [val1.v,.pointer none] (fun w=>Ld (.agg [.sl,.ptr]) n2 (fun r3 w=>K (r3.1,r3.2) w) w) w) w
theorem call297 {val1 K w}(h:F297 val1 K w):CallF Tryz.prog 297 [val1.v] [(.agg [.sl,.ptr])] K w:=ctr Tryz.func297 A297 (by kernel_rfl) (by kernel_rfl) h
def A300 :=au Tryz.f300 [] []
def F300 (v1:Option Addr)(K:Int->WP)(w:World):Prop:=LdF v1 1 tS (fun a w=>K (a.n:Int) w) w
theorem call300 {v1 K w}(h:F300 v1 K w):CallF Tryz.prog 300 [.pointer v1] [ti64] K w:=ctr Tryz.func300 A300 (by kernel_rfl) (by kernel_rfl) h
def A301 :=au Tryz.f301 [] []
def F301 (v1:Option Addr)(i2:Int)(j3:Int)(K:Bool->WP)(w:World):Prop:=LdF v1 0 tF (fun a0 w=>LdF v1 1 tS (fun a1 w=>(0<=i2/\i2<(a1.n:Int))/\(∃e8,a1.a=some e8/\Ld tS ((e8.add (i2.toNat*4)).add 1) (fun a2 w=>LdF v1 1 tS (fun a3 w=>(0<=j3/\j3<(a3.n:Int))/\(∃a4,a3.a=some a4/\Ld tS ((a4.add (j3.toNat*4)).add 1) (fun a5 w=>CallV Tryz.prog (FV.enc a0) [a2.v,a5.v] [ti64] (fun(a6:Int) w=>K (decide (a6<0)) w) w) w)) w) w)) w) w.drew
theorem call301 {v1 i2 j3 K w}(h:F301 v1 i2 j3 K w):CallF Tryz.prog 301 [.pointer v1,.int .i64 i2,.int .i64 j3] [tB] K w:=ctr Tryz.func301 A301 (by kernel_rfl) (by kernel_rfl) h
def A302 :=au Tryz.f302 [] []
def F302 (v1:Option Addr)(i2:Int)(j3:Int)(K:Unit->WP)(w:World):Prop:=LdF v1 1 tS (fun a0 w=>LdF v1 1 tS (fun a1 w=>LdF v1 1 tS (fun a2 w=>(0<=j3/\j3<(a2.n:Int))/\(∃a3,a2.a=some a3/\Ld (.agg [.sl,.sl,.sl,.int .i8]) (a3.add (j3.toNat*4)) (fun(a4:Sl×Sl×Sl×Int) w=>LdF v1 1 tS (fun a5 w=>(0<=i2/\i2<(a5.n:Int))/\(∃a6,a5.a=some a6/\Ld (.agg [.sl,.sl,.sl,.int .i8]) (a6.add (i2.toNat*4)) (fun(a7:Sl×Sl×Sl×Int) w=>(0<=i2/\i2<(a0.n:Int))/\(∃a8,a0.a=some a8/\StL (a8.add (i2.toNat*4)) [a4.1.v,a4.2.1.v,a4.2.2.1.v,.int .i8 a4.2.2.2] (fun w=>(0<=j3/\j3<(a1.n:Int))/\(∃a9,a1.a=some a9/\StL (a9.add (j3.toNat*4)) [a7.1.v,a7.2.1.v,a7.2.2.1.v,.int .i8 a7.2.2.2] (fun w=>K () w) w)) w)) w)) w) w)) w) w) w.drew
theorem call302 {v1 i2 j3 K w}(h:F302 v1 i2 j3 K w):CallF Tryz.prog 302 [.pointer v1,.int .i64 i2,.int .i64 j3] [] K w:=ctr Tryz.func302 A302 (by kernel_rfl) (by kernel_rfl) h
def A303 :=au Tryz.f303 [] []
def F303 (v1:Option Addr)(K:Int->WP)(w:World):Prop:= ∃p2,v1=some p2/\Ld tS p2 (fun x3 w=>K (x3.n:Int) w) w
theorem call303 {v1 K w}(h:F303 v1 K w):CallF Tryz.prog 303 [.pointer v1] [ti64] K w:=ctr Tryz.func303 A303 (by kernel_rfl) (by kernel_rfl) h
def A304 :=au Tryz.f304 [] []
def F304 (v1:Option Addr)(i2:Int)(j3:Int)(K:Bool->WP)(w:World):Prop:= ∃p4,v1=some p4/\Ld tS p4 (fun x5 w=>(0<=i2/\i2<(x5.n:Int))/\(∃e6,x5.a=some e6/\Ld tu64 ((e6.add (i2.toNat*3)).add 0) (fun(a0:Int) w=> ∃p8,v1=some p8/\Ld tS p8 (fun x9 w=>(0<=j3/\j3<(x9.n:Int))/\(∃a1,x9.a=some a1/\Ld tu64 ((a1.add (j3.toNat*3)).add 0) (fun(a2:Int) w=>K (decide (a0>a2)) w) w)) w) w)) w.drew
theorem call304 {v1 i2 j3 K w}(h:F304 v1 i2 j3 K w):CallF Tryz.prog 304 [.pointer v1,.int .i64 i2,.int .i64 j3] [tB] K w:=ctr Tryz.func304 A304 (by kernel_rfl) (by kernel_rfl) h
def A305 :=au Tryz.f305 [] []
def F305 (v1:Option Addr)(i2:Int)(j3:Int)(K:Unit->WP)(w:World):Prop:= ∃p4,v1=some p4/\Ld tS p4 (fun x5 w=> ∃p6,v1=some p6/\Ld tS p6 (fun x7 w=> ∃p8,v1=some p8/\Ld tS p8 (fun x9 w=>(0<=j3/\j3<(x9.n:Int))/\(∃a0,x9.a=some a0/\Ld (.agg [.int .u64,.sl,.sl]) (a0.add (j3.toNat*3)) (fun(a1:Int×Sl×Sl) w=> ∃a2,v1=some a2/\Ld tS a2 (fun a3 w=>(0<=i2/\i2<(a3.n:Int))/\(∃a4,a3.a=some a4/\Ld (.agg [.int .u64,.sl,.sl]) (a4.add (i2.toNat*3)) (fun(a5:Int×Sl×Sl) w=>(0<=i2/\i2<(x5.n:Int))/\(∃a6,x5.a=some a6/\StL (a6.add (i2.toNat*3)) [.int .u64 a1.1,a1.2.1.v,a1.2.2.v] (fun w=>(0<=j3/\j3<(x7.n:Int))/\(∃a7,x7.a=some a7/\StL (a7.add (j3.toNat*3)) [.int .u64 a5.1,a5.2.1.v,a5.2.2.v] (fun w=>K () w) w)) w)) w)) w) w)) w) w) w.drew
theorem call305 {v1 i2 j3 K w}(h:F305 v1 i2 j3 K w):CallF Tryz.prog 305 [.pointer v1,.int .i64 i2,.int .i64 j3] [] K w:=ctr Tryz.func305 A305 (by kernel_rfl) (by kernel_rfl) h
def A309 :=au Tryz.f309 [] []
def F309 (s1:Option Addr)(K:Int->WP)(w:World):Prop:=LdF s1 1 tS (fun a w=>K (a.n:Int) w) w
theorem call309 {s1 K w}(h:F309 s1 K w):CallF Tryz.prog 309 [.pointer s1] [ti64] K w:=ctr Tryz.func309 A309 (by kernel_rfl) (by kernel_rfl) h
def A310 :=au Tryz.f310 [] []
def F310 (s1:Option Addr)(i2:Int)(j3:Int)(K:Bool->WP)(w:World):Prop:=LdF s1 0 tF (fun a0 w=>LdF s1 1 tS (fun a1 w=>(0<=i2/\i2<(a1.n:Int))/\(∃e8,a1.a=some e8/\Ld tS ((e8.add (i2.toNat*3)).add 1) (fun a2 w=>LdF s1 1 tS (fun a3 w=>(0<=j3/\j3<(a3.n:Int))/\(∃a4,a3.a=some a4/\Ld tS ((a4.add (j3.toNat*3)).add 1) (fun a5 w=>CallV Tryz.prog (FV.enc a0) [a2.v,a5.v] [ti64] (fun(a6:Int) w=>K (decide (a6<0)) w) w) w)) w) w)) w) w.drew
theorem call310 {s1 i2 j3 K w}(h:F310 s1 i2 j3 K w):CallF Tryz.prog 310 [.pointer s1,.int .i64 i2,.int .i64 j3] [tB] K w:=ctr Tryz.func310 A310 (by kernel_rfl) (by kernel_rfl) h
def A311 :=au Tryz.f311 [] []
def F311 (s1:Option Addr)(i2:Int)(j3:Int)(K:Unit->WP)(w:World):Prop:=LdF s1 1 tS (fun a0 w=>LdF s1 1 tS (fun a1 w=>LdF s1 1 tS (fun a2 w=>(0<=j3/\j3<(a2.n:Int))/\(∃a3,a2.a=some a3/\Ld (.agg [.int .u64,.sl,.sl]) (a3.add (j3.toNat*3)) (fun(a4:Int×Sl×Sl) w=>LdF s1 1 tS (fun a5 w=>(0<=i2/\i2<(a5.n:Int))/\(∃a6,a5.a=some a6/\Ld (.agg [.int .u64,.sl,.sl]) (a6.add (i2.toNat*3)) (fun(a7:Int×Sl×Sl) w=>(0<=i2/\i2<(a0.n:Int))/\(∃a8,a0.a=some a8/\StL (a8.add (i2.toNat*3)) [.int .u64 a4.1,a4.2.1.v,a4.2.2.v] (fun w=>(0<=j3/\j3<(a1.n:Int))/\(∃a9,a1.a=some a9/\StL (a9.add (j3.toNat*3)) [.int .u64 a7.1,a7.2.1.v,a7.2.2.v] (fun w=>K () w) w)) w)) w)) w) w)) w) w) w.drew
theorem call311 {s1 i2 j3 K w}(h:F311 s1 i2 j3 K w):CallF Tryz.prog 311 [.pointer s1,.int .i64 i2,.int .i64 j3] [] K w:=ctr Tryz.func311 A311 (by kernel_rfl) (by kernel_rfl) h
end
set_option maxRecDepth 100000
theorem spec45 {a b:Sl}{s t:ByteArray}{w}{K:Int->WP}(ha:RdB w a.a a.n s)(hb:RdB w b.a b.n t)(k:K (bcmp s t) w):F45 a b K w:=by
 unfold F45;exact call93 ha hb k
theorem callCmp {a b:Sl}{s t:ByteArray}{w}{K:Int->WP}(ha:RdB w a.a a.n s)(hb:RdB w b.a b.n t)(k:K (bcmp s t) w):
  CallV Tryz.prog (.func (.func 45) #[] #[]) [.slice a.a a.n a.c,.slice b.a b.n b.c] [.one (.int .i64)] K w:=
 CallV_run (call45 (spec45 ha hb k))
abbrev cmpV :Value:=.func (.func 45) #[] #[]
structure KeyM where
 tr:Int
 suf:ByteArray
 val:ByteArray
structure SpanM where
 lo:ByteArray
 hi:ByteArray
 keys:List KeyM
def SlAt (D:Hp)(p:Addr)(s:ByteArray):Prop:= ∃x:Sl,(DAt D p (.slice x.a x.n x.c)/\x.a.isSome=true)/\BytesAt D x s
abbrev KC :=Int×Sl×Sl
def kcells (x:KC):List Value:=[.int .u64 x.1,.slice x.2.1.a x.2.1.n x.2.1.c,.slice x.2.2.a x.2.2.n x.2.2.c]
def KRel (D:Hp):List KC->List KeyM->Prop
 | [],[]=>True
 |k::ks,m::ms=>(k.1=m.tr/\BytesAt D k.2.1 m.suf/\BytesAt D k.2.2 m.val)/\KRel D ks ms
 |_,_=>False
def KCells (D:Hp)(x:Sl)(ks:List KC):Prop:=x.n=ks.length/\ ∀j k,ks[j]? =some k-> ∃a,x.a=some a/\ ∀i v,(kcells k)[i]? =some v->DAt D ((a.add (j*3)).add i) v
def KeysAt (D:Hp)(x:Sl)(l:List KeyM):Prop:= ∃ks,KCells D x ks/\KRel D ks l
def SpanAt (D:Hp)(p:Addr)(s:SpanM):Prop:=SlAt D p s.lo/\SlAt D (p.add 1) s.hi/\ ∃x:Sl,DAt D (p.add 2) (.slice x.a x.n x.c)/\KeysAt D x s.keys
def SpansAt (D:Hp)(e:Addr)(l:List SpanM):Prop:= ∀j s,l[j]? =some s->SpanAt D (e.add (j*4)) s
def cur (e:Addr)(n:Nat)(i:Int):Option Addr:=if 0<=i/\i<n then some (e.add (i.toNat*4))else none
def sle (e:Addr)(n:Nat):Option Addr:=if n=0 then none else some e
theorem sle_pos {e:Addr}{n:Nat}(h:0<n):sle e n=some e:=if_neg om
def itC (i e:Addr)(n c:Nat)(idx:Int):Chunk:=Arr i [cmpV,.slice (sle e n) n c,.int .i64 idx]
theorem cur_some {e:Addr}{n:Nat}{i:Int}(h0:0<=i)(h1:i<n):cur e n i=some (e.add (i.toNat*4)):=if_pos ⟨h0,h1⟩
theorem cur_none {e:Addr}{n:Nat}{i:Int}(h:i<0\/n<=i):cur e n i=none:=if_neg om
theorem spec275 {i e:Addr}{n c:Nat}{idx:Int}{L R w}{K:Option Addr->WP}(h:Sat w L)
  (t:Take L (itC i e n c idx) R) (h0: -1<=idx) (hn:idx<=n) (h1:n<2^60)
  (k: ∀w',Sat w' (itC i e n c (if idx<0 then idx else idx-1)::R)->K (cur e n (if idx<0 then idx else idx-1)) w'):F275 (some i) K w:=by
 unfold F275
 replace h:=h.take t
 unfold itC at h k
 repeat first|(refine⟨_,rfl,?_⟩)|(refine Ld1 h ?_)
 refine ifd (fun hg=>?_) (fun hg=>?_)
 ·rw[if_pos om,cur_none om]at k
  exact k _ h.near
 rw[if_neg om]at k
 repeat first|(refine⟨_,rfl,?_⟩)|(refine Ld1 h ?_)|(refine St1 h rfl (fun w h=>?_))
 rw[wi64 om om]at h|-
 refine ifd (fun hg'=>?_) (fun hg'=>?_)
 ·rw[cur_none om]at k
  exact k _ h.near
 rw[cur_some om om]at k
 repeat first|(refine⟨_,rfl,?_⟩)|(refine Ld1 h ?_)
 exact⟨by dsimp only;omega,_,sle_pos om,k _ h.near⟩
theorem spec272 {i e:Addr}{n c:Nat}{idx:Int}{L R w}{K:Option Addr->WP}(h:Sat w L)
  (t:Take L (itC i e n c idx) R) (k: ∀w' (j:Int),(n=0->j=idx)->(0<n->j=0)->Sat w' (itC i e n c j::R)->K (cur e n (if n=0 then-1 else 0)) w'):F272 (some i) K w:=by
 unfold F272
 replace h:=h.take t
 unfold itC at h k
 repeat first|(refine⟨_,rfl,?_⟩)|(refine Ld1 h ?_)
 refine ife (fun hg=>?_) (fun hg=>?_)<;>dsimp only at hg
 ·have hn:n=0:=by omega
  have:=fun w'=>k w' idx (fun _=>rfl) om
  rw[if_pos hn,cur_none om]at this
  exact this _ h.near
 have hn:n≠0:=by omega
 repeat first|(refine⟨_,rfl,?_⟩)|(refine Ld1 h ?_)|(refine St1 h rfl (fun w h=>?_))
 refine⟨by dsimp only;omega,_,sle_pos om,?_⟩
 have:=fun w'=>k w' 0 om om
 rw[if_neg hn,cur_some om om]at this
 exact this _ h.near
theorem spec274 {i e:Addr}{n c:Nat}{idx:Int}{L R w}{K:Option Addr->WP}(h:Sat w L)
  (t:Take L (itC i e n c idx) R) (h0: -1<=idx) (h1:n<2^60)
  (k: ∀w',Sat w' (itC i e n c (if idx<n then idx+1 else idx)::R)->K (cur e n (if idx<n then idx+1 else idx)) w'):F274 (some i) K w:=by
 unfold F274
 replace h:=h.take t
 unfold itC at h k
 repeat first|(refine⟨_,rfl,?_⟩)|(refine Ld1 h ?_)
 refine ifd (fun hg=>?_) (fun hg=>?_)<;>dsimp only at hg
 ·rw[if_neg om,cur_none om]at k
  exact k _ h.near
 rw[if_pos om]at k
 repeat first|(refine⟨_,rfl,?_⟩)|(refine Ld1 h ?_)|(refine St1 h rfl (fun w h=>?_))
 rw[wi64 om om]at h|-
 refine ifd (fun hg'=>?_) (fun hg'=>?_)<;>dsimp only at hg'
 ·rw[cur_none om]at k
  exact k _ h.near
 rw[cur_some om om]at k
 repeat first|(refine⟨_,rfl,?_⟩)|(refine Ld1 h ?_)
 exact⟨by dsimp only;omega,_,sle_pos om,k _ h.near⟩
theorem shr1 {x:Int}(h0:0<=x)(h1:x<2^62):IntKind.i64.wrap ((IntKind.u64.wrap (IntKind.i64.wrap x)).fdiv (2^(min 1 IntKind.u64.bits)))=x/2:=by
 have e1:IntKind.i64.wrap x=x:=wi64 om om
 have e2:IntKind.u64.wrap x=x:=wu64 om om
 have e3:x.fdiv (2^(min 1 IntKind.u64.bits))=x/2:=Int.fdiv_eq_ediv_of_nonneg _ (by show(0:Int)<=2;omega)
 rw[e1,e2,e3,wi64 om om]
theorem spec277 {i e:Addr}{n c:Nat}{idx:Int}{key:Sl}{kb:ByteArray}{spans:List SpanM}{D L R R' w}{K:Option Addr->WP}(h:Sat w L)
  (t:Take L (itC i e n c idx) R) (t':Take R (Own D) R') (hk: ∀w (x:Int),Sat w (itC i e n c x::R)->RdB w key.a key.n kb) (hs:SpansAt D e spans) (hl:spans.length=n) (h1:n<2^60)
  (hso: ∀(a b:Nat) (x y:SpanM),a<b->spans[a]? =some x->spans[b]? =some y->0<bcmp kb y.lo->0<bcmp kb x.lo)
  (k: ∀(j:Nat) w',j<=n->(∀(a:Nat) (x:SpanM),a<j->spans[a]? =some x->0<bcmp kb x.lo)->(∀x:SpanM,spans[j]? =some x->bcmp kb x.lo<=0)->Sat w' (itC i e n c ((j:Int)-1)::R)->K (cur e n ((j:Int)-1)) w'):F277 (some i) key K w:=by
 unfold F277
 replace h:=h.take t
 unfold itC at h k
 repeat first|(refine⟨_,rfl,?_⟩)|(refine Ld1 h ?_)|(refine St1 h rfl (fun w h=>?_))
 refine⟨fun m (s:Int) w=> ∃j:Nat,0<=s/\s<=n/\j<=s/\m=(s-j).toNat/\(∀(a:Nat) (x:SpanM),a<j->spans[a]? =some x->0<bcmp kb x.lo)/\(∀(a:Nat) (x:SpanM),s<=(a:Int)->spans[a]? =some x->bcmp kb x.lo<=0)/\
  Sat w (Arr i [cmpV,.slice (sle e n) n c,.int .i64 j]::R),⟨_,0,by simp,by simp,by simp,rfl,by simp,?_,h.near⟩,?_⟩
 ·intro a x ha hx
  dsimp only at ha
  have:=(List.getElem?_eq_some_iff.1 hx).1
  omega
 clear h
 rintro m s w ⟨j,hs0,hsn,hj,hm,hlo,hhi,h⟩
 repeat first|(refine⟨_,rfl,?_⟩)|(refine Ld1 h ?_)
 refine ifd (fun hg=>?_) (fun hg=>?_)
 ·repeat first|(refine⟨_,rfl,?_⟩)|(refine Ld1 h ?_)|(refine⟨by omega,?_⟩)
  rw[shr1 om om]
  have hlt:((j+s)/2).toNat<spans.length:=by omega
  obtain⟨x,hx1,hx2⟩:=(hs _ _ (List.getElem?_eq_getElem hlt)).1
  refine⟨⟨by omega,by dsimp only;omega⟩,_,sle_pos om,?_⟩
  refine LdC (h.near.dat (.there t') hx1.1) ?_
  refine callCmp (hk _ _ h.near) (h.near.rdB (.there t') hx2) ?_
  refine ifd (fun hc=>?_) (fun hc=>?_)
  ·repeat first|(refine⟨_,rfl,?_⟩)|(refine St1 h rfl (fun w h=>?_))
   rw[wi64 om om]at h
   refine⟨_,?_,((j+s)/2).toNat+1,by omega,by omega,by omega,rfl,?_,hhi,?_⟩
   ·omega
   ·intro a y ha hy
    by_cases e:a=((j+s)/2).toNat
    ·subst e
     rw[List.getElem?_eq_getElem hlt]at hy
     injection hy with hy
     rw[<-hy];exact hc
    ·exact hso a _ y _ om hy (List.getElem?_eq_getElem hlt) hc
   ·have e:((((j+s)/2).toNat+1:Nat):Int)=(j+s)/2+1:=by omega
    rw[e];exact h.near
  ·refine⟨_,?_,j,by omega,by omega,by omega,rfl,hlo,?_,h.near⟩
   ·omega
   ·intro a y ha hy
    refine Int.not_lt.1 fun hh=>hc ?_
    by_cases e:a=((j+s)/2).toNat
    ·subst e
     rw[List.getElem?_eq_getElem hlt]at hy
     injection hy with hy
     rw[<-hy]at hh;exact hh
    ·exact hso _ a _ y om (List.getElem?_eq_getElem hlt) hy hh
 ·have ej:s=j:=by omega
  subst ej
  have k':=fun w'=>k j w' om hlo (fun x hx=>hhi _ _ om hx)
  repeat first|(refine⟨_,rfl,?_⟩)|(refine Ld1 h ?_)|(refine St1 h rfl (fun w h=>?_))
  rw[wi64 om om]at h|-
  refine ifd (fun hg'=>?_) (fun hg'=>?_)
  ·rw[cur_none om]at k'
   exact k' _ h.near
  ·rw[cur_some om om]at k'
   repeat first|(refine⟨_,rfl,?_⟩)|(refine Ld1 h ?_)
   exact⟨by dsimp only;omega,_,sle_pos om,k' _ h.near⟩
end Go.Proofs.YtpkoddfamelnhaaGreatDoor
namespace Go.Tr
def lcmp :List UInt8->List UInt8->Int
 | [],[]=>0
 | [],_::_=> -1
 |_::_,[]=>1
 |a::s,b::t=>if a<b then-1 else if b<a then 1 else lcmp s t
theorem u8_tri (a b:UInt8)(h1: ¬a<b)(h2: ¬b<a):a=b:=by
 rw[UInt8.lt_iff_toNat_lt]at h1 h2
 apply UInt8.toNat.inj;omega
def fcmp (x y:List UInt8):Int:=
 match(List.range (min x.length y.length)).find? fun i=>x.getD i 0 !=y.getD i 0 with
 |some i=>if x.getD i 0<y.getD i 0 then-1 else 1
 |none=>if x.length<y.length then-1 else if x.length>y.length then 1 else 0
theorem fcmp_eq : ∀x y:List UInt8,fcmp x y=lcmp x y
 | [],[]=>by simp[fcmp,lcmp]
 | [],b::t=>by simp[fcmp,lcmp]
 |a::s,[]=>by simp[fcmp,lcmp]
 | a :: s, b :: t => by
  have ih:=fcmp_eq s t
  unfold fcmp at ih|-
  have e:min (a::s).length (b::t).length=min s.length t.length+1:=by simp
  rw[e,List.range_succ_eq_map,List.find?_cons]
  by_cases hab:a=b
  ·subst hab
   have:((a::s).getD 0 0 !=(a::t).getD 0 0)=false:=by simp
   rw[this]
   simp only[List.find?_map]
   have e2:((fun i=>(a::s).getD i 0 !=(a::t).getD i 0)∘Nat.succ)=fun i=>s.getD i 0 !=t.getD i 0:=by funext i;simp
   rw[e2]
   have hl:lcmp (a::s) (a::t)=lcmp s t:=by simp[lcmp]
   rw[hl,<-ih]
   cases(List.range (min s.length t.length)).find? (fun i=>s.getD i 0 !=t.getD i 0)with
   |none=>simp
   |some i=>simp
  ·have:((a::s).getD 0 0 !=(b::t).getD 0 0)=true:=by simpa using hab
   rw[this]
   simp only[lcmp,List.getD_cons_zero]
   by_cases h1:a<b
   ·simp[h1]
   ·have h2:b<a:=Decidable.byContradiction fun h2=>hab (u8_tri a b h1 h2)
    simp[h1,h2]
theorem bget (s:ByteArray)(i:Nat):s[i]! =s.data.toList.getD i 0:=by
 by_cases h:i<s.size
 ·rw[getElem!_pos s i h]
  have h':i<s.data.toList.length:=h
  rw[List.getD_eq_getElem?_getD,List.getElem?_eq_getElem h']
  rfl
 ·rw[getElem!_neg s i h]
  have h':s.data.toList.length<=i:=Nat.le_of_not_lt h
  rw[List.getD_eq_getElem?_getD,List.getElem?_eq_none h']
  rfl
theorem bcmp_eq (s t:ByteArray):bcmp s t=lcmp s.data.toList t.data.toList:=by
 rw[<-fcmp_eq]
 unfold bcmp Extern.BytealgCompare.cmp fcmp
 simp only[bget]
 rfl
theorem lcmp_refl : ∀x,lcmp x x=0
 | []=>rfl
 |a::s=>by simp[lcmp,lcmp_refl s]
theorem lcmp_anti : ∀x y,lcmp y x= -lcmp x y
 | [],[]=>rfl
 | [],b::t=>rfl
 |a::s,[]=>rfl
 | a :: s, b :: t => by
  simp only[lcmp]
  by_cases h1:a<b
  ·have h2: ¬b<a:=fun h=>by rw[UInt8.lt_iff_toNat_lt]at h h1;omega
   simp[h1,h2]
  ·by_cases h2:b<a
   ·simp[h1,h2]
   ·simp[h1,h2,lcmp_anti s t]
theorem lcmp_zero : ∀x y,lcmp x y=0->x=y
 | [],[],_=>rfl
 | [],b::t,h=>by simp[lcmp]at h
 |a::s,[],h=>by simp[lcmp]at h
 | a :: s, b :: t, h => by
  simp only[lcmp]at h
  by_cases h1:a<b
  ·simp[h1]at h
  ·by_cases h2:b<a
   ·simp[h1,h2]at h
   ·simp only[h1,h2,if_false]at h
    rw[u8_tri a b h1 h2,lcmp_zero s t h]
theorem lcmp_trans : ∀x y z,lcmp x y<=0->lcmp y z<=0->lcmp x z<=0
 | [],[],[],_,_=>by simp[lcmp]
 | [],_,_::_,_,_=>by simp[lcmp]
 | [],_::_,[],_,h=>by simp[lcmp]at h
 |_::_,[],_,h,_=>by simp[lcmp]at h
 |_::_,_::_,[],_,h=>by simp[lcmp]at h
 | a :: s, b :: t, c :: u, h, k => by
  simp only[lcmp]at h k|-
  by_cases h1:a<b
  ·by_cases k1:b<c
   ·have:a<c:=by rw[UInt8.lt_iff_toNat_lt]at*;omega
    simp[this]
   ·by_cases k2:c<b
    ·simp[k1,k2]at k
    ·have:=u8_tri b c k1 k2;subst this;simp[h1]
  ·by_cases h2:b<a
   ·simp[h1,h2]at h
   ·have:=u8_tri a b h1 h2;subst this
    by_cases k1:a<c
    ·simp[k1]
    ·by_cases k2:c<a
     ·simp[k1,k2]at k
     ·simp only[h1,if_false,k1,k2]at h k|-
      exact lcmp_trans s t u h k
theorem bcmp_refl (s:ByteArray):bcmp s s=0:=by rw[bcmp_eq,lcmp_refl]
theorem bcmp_anti (s t:ByteArray):bcmp t s= -bcmp s t:=by rw[bcmp_eq,bcmp_eq,lcmp_anti]
theorem bcmp_zero {s t:ByteArray}(h:bcmp s t=0):s=t:=by
 rw[bcmp_eq]at h
 have:=lcmp_zero _ _ h
 cases s;cases t
 simp only[ByteArray.mk.injEq]
 exact Array.ext' this
theorem bcmp_trans {s t u:ByteArray}(h:bcmp s t<=0)(k:bcmp t u<=0):bcmp s u<=0:=by rw[bcmp_eq]at*;exact lcmp_trans _ _ _ h k
theorem bcmp_lt_le {s t u:ByteArray}(h:bcmp s t<0)(k:bcmp t u<=0):bcmp s u<0:=by
 have h1:=bcmp_trans (Int.le_of_lt h) k
 rcases Int.lt_or_eq_of_le h1 with h2|h2
 ·exact h2
 ·have:=bcmp_zero h2;subst this
  have:=bcmp_anti s t;omega
theorem bcmp_le_lt {s t u:ByteArray}(h:bcmp s t<=0)(k:bcmp t u<0):bcmp s u<0:=by
 have h1:=bcmp_trans h (Int.le_of_lt k)
 rcases Int.lt_or_eq_of_le h1 with h2|h2
 ·exact h2
 ·have:=bcmp_zero h2;subst this
  have:=bcmp_anti s t;omega
end Go.Tr
