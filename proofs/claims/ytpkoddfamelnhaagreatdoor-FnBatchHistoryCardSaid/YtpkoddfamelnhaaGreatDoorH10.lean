/- Part 10 of the proof of fnBatchHistory_card. Conditions: none. -/
import Derived.Test.YtpkoddfamelnhaaGreatDoorH08
import Derived.Test.YtpkoddfamelnhaaGreatDoorH09
set_option linter.unusedVariables false
set_option linter.unusedSimpArgs false
namespace Go.Proofs.YtpkoddfamelnhaaGreatDoor
open Go Go.Tr
open Go.IntKind (i64 u64 u32 u8)
set_option maxRecDepth 1000000
set_option linter.unusedVariables false
noncomputable section
def A215 :=au Tryz.f215 [(1,[])] [(5,[(13,ti64),(32,tA),(33,tA),(34,tA),(35,tA),(36,tA),(37,tS),(38,tA),(39,tA),(40,tA),(41,tS),(42,ti64),(43,tB)]),(29,[(55,ti64)])]
def F215 (m1:Option Addr)(K:Unit->WP)(w:World):Prop:=Tr.Join (fun(s2:Unit) w=>LdF m1 0 tP (fun a0 w=>LdF a0 1 tS (fun a1 w=>Tr.Loop (fun(a2:Int->WP) (s8:Int) w=>(if(decide (s8<(a1.n:Int)))=true then LdF m1 0 tP (fun a3 w=>LdF a3 1 tS (fun a4 w=>(0<=s8/\s8<(a4.n:Int))/\(∃a5,a4.a=some a5/\CallF Tryz.prog 223 [.pointer (some (a5.add (s8.toNat*4)))] [] (fun a6 w=>a2 (i64.wrap (s8+1)) w) w)) w) w else CallF Tryz.prog 211 [.pointer m1] [] (fun a7 w=>K () w) w)) (0:Int) w) w) w) (fun a8=>a8 () w)
theorem call215 {m1 K w}(h:F215 m1 K w):CallF Tryz.prog 215 [.pointer m1] [] K w:=ctr Tryz.func215 A215 (by kernel_rfl) (by kernel_rfl) h
def A216 :=au Tryz.f216 [(1,[])] [(5,[(13,ti64),(32,tA),(33,tA),(34,tA),(35,tA),(36,tA),(37,tS),(38,tA),(39,tA),(40,tA),(41,tS),(42,ti64),(43,tB)]),(29,[(55,ti64)])]
def F216 (m1:Option Addr)(K:Unit->WP)(w:World):Prop:=Tr.Join (fun(s2:Unit) w=>LdF m1 0 tP (fun a0 w=>LdF a0 1 tS (fun a1 w=>Tr.Loop (fun(a2:Int->WP) (s8:Int) w=>(if(decide (s8<(a1.n:Int)))=true then LdF m1 0 tP (fun a3 w=>LdF a3 1 tS (fun a4 w=>(0<=s8/\s8<(a4.n:Int))/\(∃a5,a4.a=some a5/\CallF Tryz.prog 224 [.pointer (some (a5.add (s8.toNat*4)))] [] (fun a6 w=>a2 (i64.wrap (s8+1)) w) w)) w) w else CallF Tryz.prog 213 [.pointer m1] [] (fun a7 w=>K () w) w)) (0:Int) w) w) w) (fun a8=>a8 () w)
theorem call216 {m1 K w}(h:F216 m1 K w):CallF Tryz.prog 216 [.pointer m1] [] K w:=ctr Tryz.func216 A216 (by kernel_rfl) (by kernel_rfl) h
def A217 :=au Tryz.f217 [] []
def F217 (m1:Option Addr)(a2:Sl)(b3:Sl)(K:Int->WP)(w:World):Prop:=LdF m1 0 tP (fun a0 w=> ∃p6,a0=some p6/\Ld tF ((p6.add 2).add 0) (fun a1 w=>CallV Tryz.prog (FV.enc a1) [a2.v,b3.v] [ti64] (fun(r8:Int) w=>K r8 w) w) w) w
theorem call217 {m1 a2 b3 K w}(h:F217 m1 a2 b3 K w):CallF Tryz.prog 217 [.pointer m1,a2.v,b3.v] [ti64] K w:=ctr Tryz.func217 A217 (by kernel_rfl) (by kernel_rfl) h
def A218 :=au Tryz.f218 [(3,[]),(30,[(81,tB)])] [(18,[(6,tB),(43,ti64)])]
def F218 (m1:Option Addr)(dir2:Int)(K:(Bool×Option Addr)->WP)(w:World):Prop:=Tr.Join (fun(s3:Unit) w=>LdF m1 0 tP (fun a0 w=>LdF m1 0 tP (fun a1 w=>LdF a1 0 tS (fun a2 w=>(0<=(0:Int)/\(0:Int)<=(a2.c:Int))/\StF a0 0 (.slice a2.a 0 a2.c) (fun w=>LdF m1 0 tP (fun a3 w=>LdF a3 1 tS (fun a4 w=>Tr.Loop (fun(a5:(Bool×Int)->WP) (s16:Bool×Int) w=>(if(decide (s16.2<(a4.n:Int)))=true then Tr.Join (fun(a6:Bool) w=>(if a6=true then∃a7,m1=some a7/\Ld tP (a7.add 0) (fun a8 w=>LdF m1 0 tP (fun a9 w=>LdF a9 0 tS (fun aa w=>LdF m1 0 tP (fun ab w=>LdF ab 1 tS (fun ac w=>(0<=s16.2/\s16.2<(ac.n:Int))/\(∃ad,ac.a=some ad/\Ld tP (((ad.add (s16.2.toNat*4)).add 1).add 2) (fun ae w=>LdF ae 2 tS (fun af w=>AppP si152 aa af (fun ag w=>LdAt tP (a7.add 0) a8 w/\StF a8 0 (ag.v) (fun w=>a5 (true,(i64.wrap (s16.2+1))) w) w) w) w) w)) w) w) w) w) w.drew else a5 (s16.1,(i64.wrap (s16.2+1))) w)) (fun ah=>(if(dir2==1)=true then LdF m1 0 tP (fun ai w=>LdF ai 1 tS (fun aj w=>(0<=s16.2/\s16.2<(aj.n:Int))/\(∃ak,aj.a=some ak/\Ld ti8 (((ak.add (s16.2.toNat*4)).add 1).add 0) (fun(al:Int) w=>(if(al==2)=false then(if(dir2==(-1:Int))=true then LdF m1 0 tP (fun am w=>LdF am 1 tS (fun an w=>(0<=s16.2/\s16.2<(an.n:Int))/\(∃ao,an.a=some ao/\Ld ti8 (((ao.add (s16.2.toNat*4)).add 1).add 0) (fun(ap:Int) w=>ah (ap==1) w) w)) w) w else ah false w)else ah true w)) w)) w) w else(if(dir2==(-1:Int))=true then LdF m1 0 tP (fun aq w=>LdF aq 1 tS (fun ar w=>(0<=s16.2/\s16.2<(ar.n:Int))/\(∃au,ar.a=some au/\Ld ti8 (((au.add (s16.2.toNat*4)).add 1).add 0) (fun(av:Int) w=>ah (av==1) w) w)) w) w else ah false w)))else LdF m1 0 tP (fun ax w=> ∃ay,ax=some ay/\CallF Tryz.prog 88 [(.iface 329 (.pointer (some (ay.add 0))))] [] (fun az w=>LdF m1 1 tS (fun b w=>LdF m1 2 tS (fun b0 w=>LdF m1 0 tP (fun b1 w=>LdF b1 0 tS (fun b2 w=> ∃b3,m1=some b3/\StL (b3.add 4) [b.v,b0.v,b2.v,.int .i8 0] (fun w=>LdF m1 3 tI (fun b4 w=>LdF m1 0 tP (fun b5 w=> ∃b6,b5=some b6/\Ld tF ((b6.add 2).add 0) (fun b7 w=>LdF m1 4 (.agg [.sl,.sl,.sl,.int .i8]) (fun(b8:Sl×Sl×Sl×Int) w=> ∃b9,m1=some b9/\NotNil (IV.enc b4)/\CallI Tryz.prog (IV.enc b4) "Transform" [(FV.enc b7),.agg #[b8.1.v,b8.2.1.v,b8.2.2.1.v,.int .i8 b8.2.2.2],.pointer (some (b9.add 4))] [tI] (fun ba w=>IsI (IV.enc ba)/\(if(!(isNilI (IV.enc ba)))=true then StF m1 8 (IV.enc ba) (fun w=>K (false,none) w) w else∃bb,m1=some bb/\K (s16.1,(some (bb.add 4))) w.drew)) w) w) w) w) w.drew) w) w) w) w) w.drew) w) w)) (false,(0:Int)) w) w) w) w) w) w) w.drew) (fun bc=>bc () w)
theorem call218 {m1 dir2 K w}(h:F218 m1 dir2 K w):CallF Tryz.prog 218 [.pointer m1,.int .i8 dir2] [tB,tP] K w:=ctr Tryz.func218 A218 (by kernel_rfl) (by kernel_rfl) h
def A219 :=au Tryz.f219 [] [(6,[(28,ti64)])]
def F219 (m1:Option Addr)(K:Unit->WP)(w:World):Prop:=LdF m1 0 tP (fun a0 w=>LdF m1 0 tP (fun a1 w=> ∃p6,a1=some p6/\Ld tS ((p6.add 2).add 2) (fun a2 w=>(0<=(0:Int)/\(0:Int)<=(a2.c:Int))/\ ∃p8,a0=some p8/\St ((p8.add 2).add 2) (.slice a2.a 0 a2.c) (fun w=>LdF m1 0 tP (fun a3 w=>LdF a3 1 tS (fun a4 w=>Tr.Loop (fun(a5:Int->WP) (s13:Int) w=>(if(decide (s13<(a4.n:Int)))=true then LdF m1 0 tP (fun a6 w=>LdF a6 1 tS (fun a7 w=>(0<=s13/\s13<(a7.n:Int))/\(∃a8,a7.a=some a8/\ ∃a9,(some (a8.add (s13.toNat*4)))=some a9/\Ld ti8 ((a9.add 1).add 0) (fun(aa:Int) w=>(if(aa !=0)=true then∃ab,m1=some ab/\Ld tP (ab.add 0) (fun ac w=> ∃ad,m1=some ad/\Ld tP (ad.add 0) (fun ae w=> ∃af,ae=some af/\Ld tS ((af.add 2).add 2) (fun ag w=> ∃ah,(some (a8.add (s13.toNat*4)))=some ah/\NewS [.pointer (some (ah.add 1)),.int .i64 s13] 123 1 (fun ai w=>LdAt tS ((af.add 2).add 2) ag w/\LdAt tP (ad.add 0) ae w/\LdAt tP (ab.add 0) ac w/\AppP si154 ag ai (fun aj w=>LdAt tP (ab.add 0) ac w/\ ∃ak,ac=some ak/\St ((ak.add 2).add 2) (aj.v) (fun w=>a5 (i64.wrap (s13+1)) w) w) w) w) w) w) w.drew else∃al,m1=some al/\Ld tI (al.add 8) (fun am w=> ∃an,(some (a8.add (s13.toNat*4)))=some an/\Ld tI (an.add 0) (fun ao w=>CallI Tryz.prog (IV.enc ao) "Error" [] [tI] (fun ap w=>LdAt tI (al.add 8) am w/\CallF Tryz.prog 227 [(IV.enc am),(IV.enc ap)] [tI] (fun aq w=>StF m1 8 (IV.enc aq) (fun w=>LdF m1 8 tI (fun ar w=>IsI (IV.enc ar)/\(if(!(isNilI (IV.enc ar)))=true then K () w else a5 (i64.wrap (s13+1)) w)) w) w) w) w) w) w.drew)) w)) w) w else LdF m1 0 tP (fun au w=> ∃av,au=some av/\CallF Tryz.prog 228 [.pointer (some (av.add 2))] [] (fun ax w=>K () w) w) w)) (0:Int) w) w) w) w) w) w) w.drew
theorem call219 {m1 K w}(h:F219 m1 K w):CallF Tryz.prog 219 [.pointer m1] [] K w:=ctr Tryz.func219 A219 (by kernel_rfl) (by kernel_rfl) h
def A220 :=au Tryz.f220 [] []
def F220 (m1:Option Addr)(K:Unit->WP)(w:World):Prop:=LdF m1 0 tP (fun a0 w=>LdF a0 1 tS (fun a1 w=>LdF m1 0 tP (fun a2 w=> ∃p8,a2=some p8/\Ld tS ((p8.add 2).add 2) (fun a3 w=>(0<=(0:Int)/\(0:Int)<(a3.n:Int))/\(∃a4,a3.a=some a4/\Ld ti64 ((a4.add (0*2)).add 1) (fun(a5:Int) w=>(0<=a5/\a5<(a1.n:Int))/\(∃a6,a1.a=some a6/\CallF Tryz.prog 223 [.pointer (some (a6.add (a5.toNat*4)))] [] (fun a7 w=> ∃a8,(some (a6.add (a5.toNat*4)))=some a8/\Ld (.agg [.int .i8,.sl,.ptr]) (a8.add 1) (fun(a9:Int×Sl×Option Addr) w=>CallF Tryz.prog 193 [.agg #[.int .i8 a9.1,a9.2.1.v,.pointer a9.2.2]] [tB] (fun(aa:Bool) w=>(if(!aa)=true then∃ab,(some (a6.add (a5.toNat*4)))=some ab/\Ld tI (ab.add 0) (fun ac w=>CallI Tryz.prog (IV.enc ac) "Error" [] [tI] (fun ad w=>StF m1 8 (IV.enc ad) (fun w=>LdF m1 8 tI (fun ae w=>IsI (IV.enc ae)/\(if(isNilI (IV.enc ae))=true then LdF m1 0 tP (fun af w=> ∃ag,af=some ag/\CallF Tryz.prog 229 [.pointer (some (ag.add 2))] [tP] (fun ah w=>K () w) w) w else K () w)) w) w) w) w else LdF m1 0 tP (fun ai w=> ∃aj,ai=some aj/\CallF Tryz.prog 209 [.pointer (some (aj.add 2))] [ti64] (fun(ak:Int) w=>(if(decide (ak>1))=true then LdF m1 0 tP (fun al w=> ∃am,al=some am/\CallF Tryz.prog 230 [.pointer (some (am.add 2)),.int .i64 0] [] (fun an w=>K () w) w) w else K () w)) w) w)) w) w) w)) w)) w) w) w) w.drew
theorem call220 {m1 K w}(h:F220 m1 K w):CallF Tryz.prog 220 [.pointer m1] [] K w:=ctr Tryz.func220 A220 (by kernel_rfl) (by kernel_rfl) h
def A221 :=au Tryz.f221 [] []
def F221 (m1:Option Addr)(K:Sl->WP)(w:World):Prop:=LdF m1 0 tP (fun a0 w=> ∃p4,a0=some p4/\Ld tS ((p4.add 2).add 2) (fun a1 w=>(0<=(0:Int)/\(0:Int)<(a1.n:Int))/\(∃e6,a1.a=some e6/\Ld tP ((e6.add (0*2)).add 0) (fun a2 w=>LdF a2 1 tS (fun a3 w=>K a3 w) w) w)) w) w
theorem call221 {m1 K w}(h:F221 m1 K w):CallF Tryz.prog 221 [.pointer m1] [tS] K w:=ctr Tryz.func221 A221 (by kernel_rfl) (by kernel_rfl) h
def A222 :=au Tryz.f222 [] []
def F222 (m1:Option Addr)(K:Unit->WP)(w:World):Prop:=LdF m1 0 tP (fun a0 w=>LdF a0 1 tS (fun a1 w=>LdF m1 0 tP (fun a2 w=> ∃p8,a2=some p8/\Ld tS ((p8.add 2).add 2) (fun a3 w=>(0<=(0:Int)/\(0:Int)<(a3.n:Int))/\(∃a4,a3.a=some a4/\Ld ti64 ((a4.add (0*2)).add 1) (fun(a5:Int) w=>(0<=a5/\a5<(a1.n:Int))/\(∃a6,a1.a=some a6/\CallF Tryz.prog 224 [.pointer (some (a6.add (a5.toNat*4)))] [] (fun a7 w=> ∃a8,(some (a6.add (a5.toNat*4)))=some a8/\Ld (.agg [.int .i8,.sl,.ptr]) (a8.add 1) (fun(a9:Int×Sl×Option Addr) w=>CallF Tryz.prog 193 [.agg #[.int .i8 a9.1,a9.2.1.v,.pointer a9.2.2]] [tB] (fun(aa:Bool) w=>(if(!aa)=true then∃ab,(some (a6.add (a5.toNat*4)))=some ab/\Ld tI (ab.add 0) (fun ac w=>CallI Tryz.prog (IV.enc ac) "Error" [] [tI] (fun ad w=>StF m1 8 (IV.enc ad) (fun w=>LdF m1 8 tI (fun ae w=>IsI (IV.enc ae)/\(if(isNilI (IV.enc ae))=true then LdF m1 0 tP (fun af w=> ∃ag,af=some ag/\CallF Tryz.prog 229 [.pointer (some (ag.add 2))] [tP] (fun ah w=>K () w) w) w else K () w)) w) w) w) w else LdF m1 0 tP (fun ai w=> ∃aj,ai=some aj/\CallF Tryz.prog 209 [.pointer (some (aj.add 2))] [ti64] (fun(ak:Int) w=>(if(decide (ak>1))=true then LdF m1 0 tP (fun al w=> ∃am,al=some am/\CallF Tryz.prog 230 [.pointer (some (am.add 2)),.int .i64 0] [] (fun an w=>K () w) w) w else K () w)) w) w)) w) w) w)) w)) w) w) w) w.drew
theorem call222 {m1 K w}(h:F222 m1 K w):CallF Tryz.prog 222 [.pointer m1] [] K w:=ctr Tryz.func222 A222 (by kernel_rfl) (by kernel_rfl) h
def A223 :=au Tryz.f223 [] []
def F223 (l1:Option Addr)(K:Unit->WP)(w:World):Prop:= ∃p2,l1=some p2/\Ld ti8 ((p2.add 1).add 0) (fun(a0:Int) w=>(if(a0==1)=true then∃p4,l1=some p4/\Ld tP ((p4.add 1).add 2) (fun a1 w=>LdF a1 1 tS (fun a2 w=> ∃p8,l1=some p8/\Ld tP ((p8.add 1).add 2) (fun a3 w=> ∃a4,l1=some a4/\StL (a4.add 1) [.int .i8 2,a2.v,.pointer a3] (fun w=>K () w) w) w) w) w.drew else LdF l1 0 tI (fun a5 w=>CallI Tryz.prog (IV.enc a5) "Next" [] [tP] (fun a6 w=>(if((a6).isNone)=true then∃a7,l1=some a7/\StL (a7.add 1) [.int .i8 0,.slice none 0 0,.pointer none] (fun w=>K () w) w else LdF a6 0 tS (fun a8 w=> ∃a9,l1=some a9/\StL (a9.add 1) [.int .i8 1,a8.v,.pointer a6] (fun w=>K () w) w) w)) w) w)) w
theorem call223 {l1 K w}(h:F223 l1 K w):CallF Tryz.prog 223 [.pointer l1] [] K w:=ctr Tryz.func223 A223 (by kernel_rfl) (by kernel_rfl) h
def A224 :=au Tryz.f224 [] []
def F224 (l1:Option Addr)(K:Unit->WP)(w:World):Prop:= ∃p2,l1=some p2/\Ld ti8 ((p2.add 1).add 0) (fun(a0:Int) w=>(if(a0==2)=true then∃p4,l1=some p4/\Ld tP ((p4.add 1).add 2) (fun a1 w=>LdF a1 0 tS (fun a2 w=> ∃p8,l1=some p8/\Ld tP ((p8.add 1).add 2) (fun a3 w=> ∃a4,l1=some a4/\StL (a4.add 1) [.int .i8 1,a2.v,.pointer a3] (fun w=>K () w) w) w) w) w.drew else LdF l1 0 tI (fun a5 w=>CallI Tryz.prog (IV.enc a5) "Prev" [] [tP] (fun a6 w=>(if((a6).isNone)=true then∃a7,l1=some a7/\StL (a7.add 1) [.int .i8 0,.slice none 0 0,.pointer none] (fun w=>K () w) w else LdF a6 1 tS (fun a8 w=> ∃a9,l1=some a9/\StL (a9.add 1) [.int .i8 2,a8.v,.pointer a6] (fun w=>K () w) w) w)) w) w)) w
theorem call224 {l1 K w}(h:F224 l1 K w):CallF Tryz.prog 224 [.pointer l1] [] K w:=ctr Tryz.func224 A224 (by kernel_rfl) (by kernel_rfl) h
def A225 :=au Tryz.f225 [(5,[(9,ti64)]),(20,[]),(68,[(98,tB)]),(89,[])] [(8,[(9,ti64),(17,ti64)]),(55,[(12,tS),(13,tB),(84,ti64)])]
def F225 (equal1:FV)(keysBySuffix2:Option Addr)(snapshot3:Int)(keys4:Sl)(K:IV->WP)(w:World):Prop:=Tr.Join (fun(s5:Int) w=>CallF Tryz.prog 232 [(.iface 401 (.pointer keysBySuffix2))] [] (fun r7 w=>LdF keysBySuffix2 1 tS (fun a0 w=>LdF keysBySuffix2 1 tS (fun a1 w=>(0<=(0:Int)/\(0:Int)<=(a1.c:Int))/\StF keysBySuffix2 1 (.slice a1.a 0 a1.c) (fun w=>Tr.Loop (fun(a2:(Sl×Bool×Int)->WP) (s13:Sl×Bool×Int) w=>(if(decide (s13.2.2<(a0.n:Int)))=true then Tr.Join (fun(a3:Bool) w=>(if a3=true then(if(!s13.2.1)=true then LdF keysBySuffix2 1 tS (fun a4 w=>(0<=s13.2.2/\s13.2.2<=(a4.c:Int))/\StF keysBySuffix2 1 (.slice a4.a s13.2.2.toNat a4.c) (fun w=>a2 (s13.1,true,(i64.wrap (s13.2.2+1))) w) w) w else a2 (s13.1,s13.2.1,(i64.wrap (s13.2.2+1))) w)else(0<=s13.2.2/\s13.2.2<(a0.n:Int))/\(∃a5,a0.a=some a5/\Ld tS ((a5.add (s13.2.2.toNat*3)).add 1) (fun a6 w=>(if s13.2.1=true then∃a7,keysBySuffix2=some a7/\Ld tS (a7.add 1) (fun a8 w=>(0<=s13.2.2/\s13.2.2<(a0.n:Int))/\(∃a9,a0.a=some a9/\Ld (.agg [.int .u64,.sl,.sl]) (a9.add (s13.2.2.toNat*3)) (fun(aa:Int×Sl×Sl) w=>NewS [.int .u64 aa.1,aa.2.1.v,aa.2.2.v] 267 1 (fun ab w=>LdAt tS (a7.add 1) a8 w/\AppP si109 a8 ab (fun ac w=>StF keysBySuffix2 1 (ac.v) (fun w=>a2 (a6,s13.2.1,(i64.wrap (s13.2.2+1))) w) w) w) w) w)) w.drew else a2 (a6,s13.2.1,(i64.wrap (s13.2.2+1))) w)) w))) (fun ad=>(if(decide (s13.2.2>0))=true then(0<=s13.2.2/\s13.2.2<(a0.n:Int))/\(∃ae,a0.a=some ae/\Ld tS ((ae.add (s13.2.2.toNat*3)).add 1) (fun af w=>CallV Tryz.prog (FV.enc equal1) [s13.1.v,af.v] [tB] (fun(ag:Bool) w=>ad ag w) w) w)else ad false w))else Tr.Join (fun(ah:Unit) w=>(if(decide (s5>=(0:Int)))=true then∃ai,keysBySuffix2=some ai/\Ld tS (ai.add 1) (fun aj w=>(0<=s5/\s5<(keys4.n:Int))/\(∃ak,keys4.a=some ak/\Ld (.agg [.int .u64,.sl,.sl]) (ak.add (s5.toNat*3)) (fun(al:Int×Sl×Sl) w=>NewS [.int .u64 al.1,al.2.1.v,al.2.2.v] 267 1 (fun am w=>LdAt tS (ai.add 1) aj w/\AppP si109 aj am (fun an w=>StF keysBySuffix2 1 (an.v) (fun w=>decI .nilIface (fun ao=>K ao w)) w) w) w) w)) w.drew else decI .nilIface (fun ap=>K ap w))) (fun aq=>(if(!s13.2.1)=true then StF keysBySuffix2 1 (a0.v) (fun w=>aq () w) w else aq () w)))) (⟨none,0,0⟩,false,(0:Int)) w) w) w) w) w) (fun ar=>Tr.Loop (fun(au:(Int×Int)->WP) (s44:Int×Int) w=>(if(decide (s44.2<(keys4.n:Int)))=true then Tr.Join (fun(av:Unit) w=>(0<=s44.2/\s44.2<(keys4.n:Int))/\(∃ax,keys4.a=some ax/\Ld (.agg [.int .u64,.sl,.sl]) (ax.add (s44.2.toNat*3)) (fun(ay:Int×Sl×Sl) w=>CallF Tryz.prog 231 [.agg #[.int .u64 ay.1,ay.2.1.v,ay.2.2.v],.int .u64 snapshot3] [tB] (fun(az:Bool) w=>(if(!az)=true then au (s44.1,(i64.wrap (s44.2+1))) w else(0<=s44.2/\s44.2<(keys4.n:Int))/\(∃b,keys4.a=some b/\Ld (.agg [.int .u64,.sl,.sl]) (b.add (s44.2.toNat*3)) (fun(b0:Int×Sl×Sl) w=>CallF Tryz.prog 137 [.agg #[.int .u64 b0.1,b0.2.1.v,b0.2.2.v]] [tu8] (fun(b1:Int) w=>(if(b1==19)=true then ar s44.2 w else∃b2,keysBySuffix2=some b2/\Ld tS (b2.add 1) (fun b3 w=>(0<=s44.2/\s44.2<(keys4.n:Int))/\(∃b4,keys4.a=some b4/\Ld (.agg [.int .u64,.sl,.sl]) (b4.add (s44.2.toNat*3)) (fun(b5:Int×Sl×Sl) w=>NewS [.int .u64 b5.1,b5.2.1.v,b5.2.2.v] 267 1 (fun b6 w=>LdAt tS (b2.add 1) b3 w/\AppP si109 b3 b6 (fun b7 w=>StF keysBySuffix2 1 (b7.v) (fun w=>au (s44.1,(i64.wrap (s44.2+1))) w) w) w) w) w)) w.drew)) w) w))) w) w)) (fun b8=>b8 () w.drew)else ar s44.1 w)) ((-1:Int),(0:Int)) w)
theorem call225 {equal1 keysBySuffix2 snapshot3 keys4 K w}(h:F225 equal1 keysBySuffix2 snapshot3 keys4 K w):CallF Tryz.prog 225 [(FV.enc equal1),.pointer keysBySuffix2,.int .u64 snapshot3,keys4.v] [tI] K w:=ctr Tryz.func225 A225 (by kernel_rfl) (by kernel_rfl) h
def A227 :=au Tryz.f227 [] []
def F227 (err01:IV)(err12:IV)(K:IV->WP)(w:World):Prop:=IsI (IV.enc err01)/\(if(!(isNilI (IV.enc err01)))=true then decI (IV.enc err01) (fun i3=>K i3 w)else decI (IV.enc err12) (fun i4=>K i4 w))
theorem call227 {err01 err12 K w}(h:F227 err01 err12 K w):CallF Tryz.prog 227 [(IV.enc err01),(IV.enc err12)] [tI] K w:=ctr Tryz.func227 A227 (by kernel_rfl) (by kernel_rfl) h
def A228 :=au Tryz.f228 [] [(5,[(3,ti64)])]
def F228 (h1:Option Addr)(K:Unit->WP)(w:World):Prop:=CallF Tryz.prog 209 [.pointer h1] [ti64] (fun(r2:Int) w=>(2:Int)≠0/\Tr.Loop (fun(a:Int->WP) (s3:Int) w=>(if(decide (s3>=(0:Int)))=true then CallF Tryz.prog 233 [.pointer h1,.int .i64 s3,.int .i64 r2] [tB] (fun(r5:Bool) w=>a (i64.wrap (s3-1)) w) w else K () w)) (i64.wrap ((i64.wrap ((r2).tdiv (2:Int)))-1)) w) w
theorem call228 {h1 K w}(h:F228 h1 K w):CallF Tryz.prog 228 [.pointer h1] [] K w:=ctr Tryz.func228 A228 (by kernel_rfl) (by kernel_rfl) h
def A229 :=au Tryz.f229 [] []
def F229 (h1:Option Addr)(K:(Option Addr)->WP)(w:World):Prop:=CallF Tryz.prog 209 [.pointer h1] [ti64] (fun(r2:Int) w=>CallF Tryz.prog 234 [.pointer h1,.int .i64 0,.int .i64 (i64.wrap (r2-1))] [] (fun r3 w=>CallF Tryz.prog 233 [.pointer h1,.int .i64 0,.int .i64 (i64.wrap (r2-1))] [tB] (fun(r4:Bool) w=>LdF h1 2 tS (fun a0 w=>(0<=(i64.wrap (r2-1))/\(i64.wrap (r2-1))<(a0.n:Int))/\(∃e7,a0.a=some e7/\LdF h1 2 tS (fun a1 w=>(0<=(i64.wrap (r2-1))/\(i64.wrap (r2-1))<=(a1.c:Int))/\StF h1 2 (.slice a1.a ((i64.wrap (r2-1)).toNat) a1.c) (fun w=>K (some (e7.add ((i64.wrap (r2-1)).toNat*2))) w) w) w)) w) w) w) w
theorem call229 {h1 K w}(h:F229 h1 K w):CallF Tryz.prog 229 [.pointer h1] [tP] K w:=ctr Tryz.func229 A229 (by kernel_rfl) (by kernel_rfl) h
def A230 :=au Tryz.f230 [] []
def F230 (h1:Option Addr)(i2:Int)(K:Unit->WP)(w:World):Prop:=CallF Tryz.prog 209 [.pointer h1] [ti64] (fun(r3:Int) w=>CallF Tryz.prog 233 [.pointer h1,.int .i64 i2,.int .i64 r3] [tB] (fun(r4:Bool) w=>(if(!r4)=true then CallF Tryz.prog 235 [.pointer h1,.int .i64 i2] [] (fun r5 w=>K () w) w else K () w)) w) w
theorem call230 {h1 i2 K w}(h:F230 h1 i2 K w):CallF Tryz.prog 230 [.pointer h1,.int .i64 i2] [] K w:=ctr Tryz.func230 A230 (by kernel_rfl) (by kernel_rfl) h
def A231 :=au Tryz.f231 [] []
def F231 (k1:Int×Sl×Sl)(snapshot2:Int)(K:Bool->WP)(w:World):Prop:=NewP [.int .u64 k1.1,k1.2.1.v,k1.2.2.v] 267 (fun n3 w=>Ld (.agg [.int .u64,.sl,.sl]) n3 (fun(x4:Int×Sl×Sl) w=>CallF Tryz.prog 135 [.agg #[.int .u64 x4.1,x4.2.1.v,x4.2.2.v]] [tu64] (fun(r5:Int) w=>(if(decide (r5<snapshot2))=false then K ((u64.wrap (BitVec.ofInt IntKind.u64.bits r5&&&BitVec.ofInt IntKind.u64.bits (36028797018963968:Int)).toNat) !=0) w else K true w)) w) w) w
theorem call231 {k1 snapshot2 K w}(h:F231 k1 snapshot2 K w):CallF Tryz.prog 231 [.agg #[.int .u64 k1.1,k1.2.1.v,k1.2.2.v],.int .u64 snapshot2] [tB] K w:=ctr Tryz.func231 A231 (by kernel_rfl) (by kernel_rfl) h
def A232 :=au Tryz.f232 [] []
def F232 (data1:IV)(K:Unit->WP)(w:World):Prop:=CallI Tryz.prog (IV.enc data1) "Len" [] [ti64] (fun(r2:Int) w=>CallF Tryz.prog 236 [(IV.enc data1),.int .i64 r2] [] (fun r3 w=>K () w) w) w
theorem call232 {data1 K w}(h:F232 data1 K w):CallF Tryz.prog 232 [(IV.enc data1)] [] K w:=ctr Tryz.func232 A232 (by kernel_rfl) (by kernel_rfl) h
def A233 :=au Tryz.f233 [(11,[(19,ti64),(20,tB)]),(19,[(9,ti64)])] [(6,[(7,ti64)])]
def F233 (h1:Option Addr)(i02:Int)(n3:Int)(K:Bool->WP)(w:World):Prop:=Tr.Loop (fun(a:Int->WP) (s4:Int) w=>Tr.Join (fun(s6:Int×Bool) w=>Tr.Join (fun(s8:Int) w=>CallF Tryz.prog 237 [.pointer h1,.int .i64 s8,.int .i64 s4] [tB] (fun(a0:Bool) w=>(if(!a0)=true then K (decide (s4>i02)) w else CallF Tryz.prog 234 [.pointer h1,.int .i64 s4,.int .i64 s8] [] (fun a1 w=>a s8 w) w)) w) (fun a2=>(if(decide ((i64.wrap ((i64.wrap ((i64.wrap ((2:Int)*s4))+1))+1))<n3))=true then CallF Tryz.prog 237 [.pointer h1,.int .i64 (i64.wrap ((i64.wrap ((i64.wrap ((2:Int)*s4))+1))+1)),.int .i64 (i64.wrap ((i64.wrap ((2:Int)*s4))+1))] [tB] (fun(a3:Bool) w=>(if a3=true then a2 (i64.wrap ((i64.wrap ((i64.wrap ((2:Int)*s4))+1))+1)) w else a2 (i64.wrap ((i64.wrap ((2:Int)*s4))+1)) w)) w else a2 (i64.wrap ((i64.wrap ((2:Int)*s4))+1)) w))) (fun a4=>(if(decide ((i64.wrap ((i64.wrap ((2:Int)*s4))+1))>=n3))=false then(if(decide ((i64.wrap ((i64.wrap ((2:Int)*s4))+1))<0))=true then K (decide (s4>i02)) w else a4 ((i64.wrap ((i64.wrap ((2:Int)*s4))+1)),(decide ((i64.wrap ((i64.wrap ((2:Int)*s4))+1))<0))) w)else K (decide (s4>i02)) w))) i02 w
theorem call233 {h1 i02 n3 K w}(h:F233 h1 i02 n3 K w):CallF Tryz.prog 233 [.pointer h1,.int .i64 i02,.int .i64 n3] [tB] K w:=ctr Tryz.func233 A233 (by kernel_rfl) (by kernel_rfl) h
def A234 :=au Tryz.f234 [] []
def F234 (h1:Option Addr)(i2:Int)(j3:Int)(K:Unit->WP)(w:World):Prop:=LdF h1 2 tS (fun a0 w=>LdF h1 2 tS (fun a1 w=>LdF h1 2 tS (fun a2 w=>(0<=j3/\j3<(a2.n:Int))/\(∃a3,a2.a=some a3/\Ld (.agg [.ptr,.int .i64]) (a3.add (j3.toNat*2)) (fun(a4:Option Addr×Int) w=>LdF h1 2 tS (fun a5 w=>(0<=i2/\i2<(a5.n:Int))/\(∃a6,a5.a=some a6/\Ld (.agg [.ptr,.int .i64]) (a6.add (i2.toNat*2)) (fun(a7:Option Addr×Int) w=>(0<=i2/\i2<(a0.n:Int))/\(∃a8,a0.a=some a8/\StL (a8.add (i2.toNat*2)) [.pointer a4.1,.int .i64 a4.2] (fun w=>(0<=j3/\j3<(a1.n:Int))/\(∃a9,a1.a=some a9/\StL (a9.add (j3.toNat*2)) [.pointer a7.1,.int .i64 a7.2] (fun w=>K () w) w)) w)) w)) w) w)) w) w) w.drew
theorem call234 {h1 i2 j3 K w}(h:F234 h1 i2 j3 K w):CallF Tryz.prog 234 [.pointer h1,.int .i64 i2,.int .i64 j3] [] K w:=ctr Tryz.func234 A234 (by kernel_rfl) (by kernel_rfl) h
def A235 :=au Tryz.f235 [] [(1,[(1,ti64)])]
def F235 (h1:Option Addr)(j2:Int)(K:Unit->WP)(w:World):Prop:=Tr.Loop (fun(a:Int->WP) (s3:Int) w=>(2:Int)≠0/\(if((i64.wrap (((i64.wrap (s3-1))).tdiv (2:Int)))==s3)=false then CallF Tryz.prog 237 [.pointer h1,.int .i64 s3,.int .i64 (i64.wrap (((i64.wrap (s3-1))).tdiv (2:Int)))] [tB] (fun(r5:Bool) w=>(if(!r5)=true then K () w else CallF Tryz.prog 234 [.pointer h1,.int .i64 (i64.wrap (((i64.wrap (s3-1))).tdiv (2:Int))),.int .i64 s3] [] (fun r6 w=>a (i64.wrap (((i64.wrap (s3-1))).tdiv (2:Int))) w) w)) w else K () w)) j2 w
theorem call235 {h1 j2 K w}(h:F235 h1 j2 K w):CallF Tryz.prog 235 [.pointer h1,.int .i64 j2] [] K w:=ctr Tryz.func235 A235 (by kernel_rfl) (by kernel_rfl) h
def A236 :=au Tryz.f236 [] [(6,[(5,ti64),(6,ti64)]),(22,[(4,ti64)]),(34,[(5,ti64),(6,ti64)])]
def F236 (data1:IV)(n2:Int)(K:Unit->WP)(w:World):Prop:=Tr.Loop (fun(a:(Int×Int)->WP) (s3:Int×Int) w=>(if(decide (s3.2<=n2))=true then CallF Tryz.prog 157 [(IV.enc data1),.int .i64 s3.1,.int .i64 s3.2] [] (fun r5 w=>a (s3.2,(i64.wrap (s3.2+20))) w) w else CallF Tryz.prog 157 [(IV.enc data1),.int .i64 s3.1,.int .i64 n2] [] (fun r6 w=>Tr.Loop (fun(a0:Int->WP) (s7:Int) w=>(if(decide (s7<n2))=true then Tr.Loop (fun(a1:(Int×Int)->WP) (s9:Int×Int) w=>(if(decide (s9.2<=n2))=true then CallF Tryz.prog 238 [(IV.enc data1),.int .i64 s9.1,.int .i64 (i64.wrap (s9.1+s7)),.int .i64 s9.2] [] (fun a2 w=>a1 (s9.2,(i64.wrap (s9.2+(i64.wrap ((2:Int)*s7))))) w) w else(if(decide ((i64.wrap (s9.1+s7))<n2))=true then CallF Tryz.prog 238 [(IV.enc data1),.int .i64 s9.1,.int .i64 (i64.wrap (s9.1+s7)),.int .i64 n2] [] (fun a3 w=>a0 (i64.wrap (s7*(2:Int))) w) w else a0 (i64.wrap (s7*(2:Int))) w))) ((0:Int),(i64.wrap ((2:Int)*s7))) w else K () w)) (20:Int) w) w)) ((0:Int),(20:Int)) w
theorem call236 {data1 n2 K w}(h:F236 data1 n2 K w):CallF Tryz.prog 236 [(IV.enc data1),.int .i64 n2] [] K w:=ctr Tryz.func236 A236 (by kernel_rfl) (by kernel_rfl) h
def A237 :=au Tryz.f237 [] []
def F237 (h1:Option Addr)(i2:Int)(j3:Int)(K:Bool->WP)(w:World):Prop:=LdF h1 2 tS (fun a0 w=>(0<=i2/\i2<(a0.n:Int))/\(∃e6,a0.a=some e6/\Ld tP ((e6.add (i2.toNat*2)).add 0) (fun a1 w=>LdF a1 1 tS (fun a2 w=>LdF h1 2 tS (fun a3 w=>(0<=j3/\j3<(a3.n:Int))/\(∃a4,a3.a=some a4/\Ld tP ((a4.add (j3.toNat*2)).add 0) (fun a5 w=>LdF a5 1 tS (fun a6 w=>LdF h1 0 tF (fun a7 w=>CallV Tryz.prog (FV.enc a7) [a2.v,a6.v] [ti64] (fun(a8:Int) w=>LdF h1 1 tB (fun(a9:Bool) w=>(if a9=true then K (decide (a8>0)) w else K (decide (a8<0)) w)) w) w) w) w) w)) w) w) w)) w.drew
theorem call237 {h1 i2 j3 K w}(h:F237 h1 i2 j3 K w):CallF Tryz.prog 237 [.pointer h1,.int .i64 i2,.int .i64 j3] [tB] K w:=ctr Tryz.func237 A237 (by kernel_rfl) (by kernel_rfl) h
def A238 :=au Tryz.f238 [(91,[(18,ti64),(19,ti64)]),(122,[]),(128,[])] [(10,[(8,ti64),(9,ti64)]),(29,[(11,ti64)]),(52,[(12,ti64),(13,ti64)]),(71,[(15,ti64)]),(104,[(18,ti64),(19,ti64)])]
def F238 (data1:IV)(a2:Int)(m3:Int)(b4:Int)(K:Unit->WP)(w:World):Prop:=(if((i64.wrap (m3-a2))==1)=true then Tr.Loop (fun(a:(Int×Int)->WP) (s5:Int×Int) w=>(if(decide (s5.1<s5.2))=true then 0<=(1:Int)/\CallI Tryz.prog (IV.enc data1) "Less" [.int .i64 (i64.wrap (((u64.wrap (i64.wrap (s5.1+s5.2)))).fdiv (2^(min 1 IntKind.u64.bits)))),.int .i64 a2] [tB] (fun(r7:Bool) w=>(if r7=true then a ((i64.wrap ((i64.wrap (((u64.wrap (i64.wrap (s5.1+s5.2)))).fdiv (2^(min 1 IntKind.u64.bits))))+1)),s5.2) w else a (s5.1,(i64.wrap (((u64.wrap (i64.wrap (s5.1+s5.2)))).fdiv (2^(min 1 IntKind.u64.bits))))) w)) w else Tr.Loop (fun(a0:Int->WP) (s8:Int) w=>(if(decide (s8<(i64.wrap (s5.1-1))))=true then CallI Tryz.prog (IV.enc data1) "Swap" [.int .i64 s8,.int .i64 (i64.wrap (s8+1))] [] (fun a1 w=>a0 (i64.wrap (s8+1)) w) w else K () w)) a2 w)) (m3,b4) w else(if((i64.wrap (b4-m3))==1)=true then Tr.Loop (fun(a3:(Int×Int)->WP) (s11:Int×Int) w=>(if(decide (s11.1<s11.2))=true then 0<=(1:Int)/\CallI Tryz.prog (IV.enc data1) "Less" [.int .i64 m3,.int .i64 (i64.wrap (((u64.wrap (i64.wrap (s11.1+s11.2)))).fdiv (2^(min 1 IntKind.u64.bits))))] [tB] (fun(a4:Bool) w=>(if(!a4)=true then a3 ((i64.wrap ((i64.wrap (((u64.wrap (i64.wrap (s11.1+s11.2)))).fdiv (2^(min 1 IntKind.u64.bits))))+1)),s11.2) w else a3 (s11.1,(i64.wrap (((u64.wrap (i64.wrap (s11.1+s11.2)))).fdiv (2^(min 1 IntKind.u64.bits))))) w)) w else Tr.Loop (fun(a5:Int->WP) (s14:Int) w=>(if(decide (s14>s11.1))=true then CallI Tryz.prog (IV.enc data1) "Swap" [.int .i64 s14,.int .i64 (i64.wrap (s14-1))] [] (fun a6 w=>a5 (i64.wrap (s14-1)) w) w else K () w)) m3 w)) (a2,m3) w else 0<=(1:Int)/\Tr.Join (fun(a7:Int×Int) w=>Tr.Loop (fun(a8:(Int×Int)->WP) (s19:Int×Int) w=>(if(decide (s19.1<s19.2))=true then 0<=(1:Int)/\CallI Tryz.prog (IV.enc data1) "Less" [.int .i64 (i64.wrap ((i64.wrap ((i64.wrap ((i64.wrap (((u64.wrap (i64.wrap (a2+b4)))).fdiv (2^(min 1 IntKind.u64.bits))))+m3))-1))-(i64.wrap (((u64.wrap (i64.wrap (s19.1+s19.2)))).fdiv (2^(min 1 IntKind.u64.bits)))))),.int .i64 (i64.wrap (((u64.wrap (i64.wrap (s19.1+s19.2)))).fdiv (2^(min 1 IntKind.u64.bits))))] [tB] (fun(a9:Bool) w=>(if(!a9)=true then a8 ((i64.wrap ((i64.wrap (((u64.wrap (i64.wrap (s19.1+s19.2)))).fdiv (2^(min 1 IntKind.u64.bits))))+1)),s19.2) w else a8 (s19.1,(i64.wrap (((u64.wrap (i64.wrap (s19.1+s19.2)))).fdiv (2^(min 1 IntKind.u64.bits))))) w)) w else Tr.Join (fun(aa:Unit) w=>Tr.Join (fun(ab:Unit) w=>(if(decide ((i64.wrap (((u64.wrap (i64.wrap (a2+b4)))).fdiv (2^(min 1 IntKind.u64.bits))))<(i64.wrap ((i64.wrap ((i64.wrap (((u64.wrap (i64.wrap (a2+b4)))).fdiv (2^(min 1 IntKind.u64.bits))))+m3))-s19.1))))=true then(if(decide ((i64.wrap ((i64.wrap ((i64.wrap (((u64.wrap (i64.wrap (a2+b4)))).fdiv (2^(min 1 IntKind.u64.bits))))+m3))-s19.1))<b4))=true then CallF Tryz.prog 238 [(IV.enc data1),.int .i64 (i64.wrap (((u64.wrap (i64.wrap (a2+b4)))).fdiv (2^(min 1 IntKind.u64.bits)))),.int .i64 (i64.wrap ((i64.wrap ((i64.wrap (((u64.wrap (i64.wrap (a2+b4)))).fdiv (2^(min 1 IntKind.u64.bits))))+m3))-s19.1)),.int .i64 b4] [] (fun ac w=>K () w) w else K () w)else K () w)) (fun ad=>(if(decide (a2<s19.1))=true then(if(decide (s19.1<(i64.wrap (((u64.wrap (i64.wrap (a2+b4)))).fdiv (2^(min 1 IntKind.u64.bits))))))=true then CallF Tryz.prog 238 [(IV.enc data1),.int .i64 a2,.int .i64 s19.1,.int .i64 (i64.wrap (((u64.wrap (i64.wrap (a2+b4)))).fdiv (2^(min 1 IntKind.u64.bits))))] [] (fun ae w=>ad () w) w else ad () w)else ad () w))) (fun af=>(if(decide (s19.1<m3))=true then(if(decide (m3<(i64.wrap ((i64.wrap ((i64.wrap (((u64.wrap (i64.wrap (a2+b4)))).fdiv (2^(min 1 IntKind.u64.bits))))+m3))-s19.1))))=true then CallF Tryz.prog 239 [(IV.enc data1),.int .i64 s19.1,.int .i64 m3,.int .i64 (i64.wrap ((i64.wrap ((i64.wrap (((u64.wrap (i64.wrap (a2+b4)))).fdiv (2^(min 1 IntKind.u64.bits))))+m3))-s19.1))] [] (fun ag w=>af () w) w else af () w)else af () w)))) (a7.1,a7.2) w) (fun ah=>(if(decide (m3>(i64.wrap (((u64.wrap (i64.wrap (a2+b4)))).fdiv (2^(min 1 IntKind.u64.bits))))))=true then ah ((i64.wrap ((i64.wrap ((i64.wrap (((u64.wrap (i64.wrap (a2+b4)))).fdiv (2^(min 1 IntKind.u64.bits))))+m3))-b4)),(i64.wrap (((u64.wrap (i64.wrap (a2+b4)))).fdiv (2^(min 1 IntKind.u64.bits))))) w else ah (a2,m3) w))))
theorem call238 {data1 a2 m3 b4 K w}(h:F238 data1 a2 m3 b4 K w):CallF Tryz.prog 238 [(IV.enc data1),.int .i64 a2,.int .i64 m3,.int .i64 b4] [] K w:=ctr Tryz.func238 A238 (by kernel_rfl) (by kernel_rfl) h
def A239 :=au Tryz.f239 [] [(6,[(8,ti64),(9,ti64)])]
def F239 (data1:IV)(a2:Int)(m3:Int)(b4:Int)(K:Unit->WP)(w:World):Prop:=Tr.Loop (fun(a:(Int×Int)->WP) (s5:Int×Int) w=>(if(s5.1 !=s5.2)=true then(if(decide (s5.1>s5.2))=true then CallF Tryz.prog 240 [(IV.enc data1),.int .i64 (i64.wrap (m3-s5.1)),.int .i64 m3,.int .i64 s5.2] [] (fun r7 w=>a ((i64.wrap (s5.1-s5.2)),s5.2) w) w else CallF Tryz.prog 240 [(IV.enc data1),.int .i64 (i64.wrap (m3-s5.1)),.int .i64 (i64.wrap ((i64.wrap (m3+s5.2))-s5.1)),.int .i64 s5.1] [] (fun r8 w=>a (s5.1,(i64.wrap (s5.2-s5.1))) w) w)else CallF Tryz.prog 240 [(IV.enc data1),.int .i64 (i64.wrap (m3-s5.1)),.int .i64 m3,.int .i64 s5.1] [] (fun r9 w=>K () w) w)) ((i64.wrap (m3-a2)),(i64.wrap (b4-m3))) w
theorem call239 {data1 a2 m3 b4 K w}(h:F239 data1 a2 m3 b4 K w):CallF Tryz.prog 239 [(IV.enc data1),.int .i64 a2,.int .i64 m3,.int .i64 b4] [] K w:=ctr Tryz.func239 A239 (by kernel_rfl) (by kernel_rfl) h
def A240 :=au Tryz.f240 [] [(3,[(8,ti64)])]
def F240 (data1:IV)(a2:Int)(b3:Int)(n4:Int)(K:Unit->WP)(w:World):Prop:=Tr.Loop (fun(a:Int->WP) (s5:Int) w=>(if(decide (s5<n4))=true then CallI Tryz.prog (IV.enc data1) "Swap" [.int .i64 (i64.wrap (a2+s5)),.int .i64 (i64.wrap (b3+s5))] [] (fun r7 w=>a (i64.wrap (s5+1)) w) w else K () w)) (0:Int) w
theorem call240 {data1 a2 b3 n4 K w}(h:F240 data1 a2 b3 n4 K w):CallF Tryz.prog 240 [(IV.enc data1),.int .i64 a2,.int .i64 b3,.int .i64 n4] [] K w:=ctr Tryz.func240 A240 (by kernel_rfl) (by kernel_rfl) h
def A242 :=au Tryz.f242 [] []
def F242 (i1:Option Addr)(K:IV->WP)(w:World):Prop:=LdF i1 0 tI (fun a w=>CallI Tryz.prog (IV.enc a) "Error" [] [tI] (fun r4 w=>decI (IV.enc r4) (fun i5=>K i5 w)) w) w
theorem call242 {i1 K w}(h:F242 i1 K w):CallF Tryz.prog 242 [.pointer i1] [tI] K w:=ctr Tryz.func242 A242 (by kernel_rfl) (by kernel_rfl) h
def A245 :=au Tryz.f245 [(17,[]),(27,[]),(28,[(73,tB)])] []
def F245 (i1:Option Addr)(K:(Option Addr)->WP)(w:World):Prop:=LdF i1 8 ti8 (fun(a0:Int) w=>(if(a0==(-1:Int))=true then StF i1 8 (.int .i8 0) (fun w=>LdF i1 1 tP (fun a1 w=>K a1 w) w) w else(if(a0==0)=true then Tr.Join (fun(s7:Unit) w=>Tr.Join (fun(s9:Unit) w=>LdF i1 0 tI (fun a2 w=>CallI Tryz.prog (IV.enc a2) "Next" [] [tP] (fun a3 w=>CallF Tryz.prog 249 [.pointer i1,.pointer a3] [tP] (fun a4 w=>CallF Tryz.prog 250 [.pointer i1,.pointer a4] [tP] (fun a5 w=>K a5 w) w) w) w) w) (fun a6=>Tr.Join (fun(a7:Bool) w=>(if a7=true then LdF i1 3 tF (fun a8 w=>LdF i1 1 tP (fun a9 w=>LdF a9 1 tS (fun aa w=>CallV Tryz.prog (FV.enc a8) [aa.v] [ti64] (fun(ab:Int) w=>LdF i1 2 tF (fun ac w=>LdF i1 1 tP (fun ad w=>LdF ad 1 tS (fun ae w=>(0<=ab/\ab<=(ae.c:Int))/\LdF i1 7 tP (fun af w=> ∃ag,af=some ag/\Ld tS ag (fun ah w=>CallV Tryz.prog (FV.enc ac) [.slice ae.a ab.toNat ae.c,ah.v] [ti64] (fun(ai:Int) w=>(if(decide (ai>0))=true then StF i1 8 (.int .i8 1) (fun w=>K none w) w else a6 () w)) w) w) w) w) w) w.drew) w) w) w) w.drew else a6 () w)) (fun aj=>LdF i1 1 tP (fun ak w=>(if(!(ak).isNone)=true then LdF i1 6 tP (fun al w=>(if(!(al).isNone)=true then LdF i1 6 tP (fun am w=> ∃an,am=some an/\Ld tB an (fun(ao:Bool) w=>aj ao w) w) w else aj false w)) w else aj false w)) w))) (fun ap=>LdF i1 1 tP (fun aq w=>(if(!(aq).isNone)=true then LdF i1 5 tS (fun ar w=>(if(!(ar.a).isNone)=true then LdF i1 2 tF (fun au w=>LdF i1 1 tP (fun av w=>LdF av 1 tS (fun ax w=>LdF i1 5 tS (fun ay w=>CallV Tryz.prog (FV.enc au) [ax.v,ay.v] [ti64] (fun(az:Int) w=>(if(decide (az>=(0:Int)))=true then StF i1 8 (.int .i8 1) (fun w=>K none w) w else ap () w)) w) w) w) w) w else ap () w)) w else ap () w)) w.drew)else(if(a0==1)=true then K none w else False)))) w
theorem call245 {i1 K w}(h:F245 i1 K w):CallF Tryz.prog 245 [.pointer i1] [tP] K w:=ctr Tryz.func245 A245 (by kernel_rfl) (by kernel_rfl) h
def A246 :=au Tryz.f246 [(15,[]),(25,[]),(26,[(66,tB)])] []
def F246 (i1:Option Addr)(K:(Option Addr)->WP)(w:World):Prop:=LdF i1 8 ti8 (fun(a0:Int) w=>(if(a0==(-1:Int))=true then K none w else(if(a0==0)=true then Tr.Join (fun(s4:Unit) w=>Tr.Join (fun(s6:Unit) w=>LdF i1 0 tI (fun a1 w=>CallI Tryz.prog (IV.enc a1) "Prev" [] [tP] (fun a2 w=>CallF Tryz.prog 251 [.pointer i1,.pointer a2] [tP] (fun a3 w=>CallF Tryz.prog 252 [.pointer i1,.pointer a3] [tP] (fun a4 w=>K a4 w) w) w) w) w) (fun a5=>Tr.Join (fun(a6:Bool) w=>(if a6=true then LdF i1 3 tF (fun a7 w=>LdF i1 1 tP (fun a8 w=>LdF a8 0 tS (fun a9 w=>CallV Tryz.prog (FV.enc a7) [a9.v] [ti64] (fun(aa:Int) w=>LdF i1 2 tF (fun ab w=>LdF i1 1 tP (fun ac w=>LdF ac 0 tS (fun ad w=>(0<=aa/\aa<=(ad.c:Int))/\LdF i1 7 tP (fun ae w=> ∃af,ae=some af/\Ld tS af (fun ag w=>CallV Tryz.prog (FV.enc ab) [.slice ad.a aa.toNat ad.c,ag.v] [ti64] (fun(ah:Int) w=>(if(decide (ah<0))=true then StF i1 8 (.int .i8 (-1:Int)) (fun w=>K none w) w else a5 () w)) w) w) w) w) w) w.drew) w) w) w) w.drew else a5 () w)) (fun ai=>LdF i1 1 tP (fun aj w=>(if(!(aj).isNone)=true then LdF i1 6 tP (fun ak w=>(if(!(ak).isNone)=true then LdF i1 6 tP (fun al w=> ∃am,al=some am/\Ld tB am (fun(an:Bool) w=>ai an w) w) w else ai false w)) w else ai false w)) w))) (fun ao=>LdF i1 1 tP (fun ap w=>(if(!(ap).isNone)=true then LdF i1 4 tS (fun aq w=>(if(!(aq.a).isNone)=true then LdF i1 2 tF (fun ar w=>LdF i1 1 tP (fun au w=>LdF au 0 tS (fun av w=>LdF i1 4 tS (fun ax w=>CallV Tryz.prog (FV.enc ar) [av.v,ax.v] [ti64] (fun(ay:Int) w=>(if(decide (ay<=(0:Int)))=true then StF i1 8 (.int .i8 (-1:Int)) (fun w=>K none w) w else ao () w)) w) w) w) w) w else ao () w)) w else ao () w)) w.drew)else(if(a0==1)=true then StF i1 8 (.int .i8 0) (fun w=>LdF i1 1 tP (fun az w=>K az w) w) w else False)))) w
theorem call246 {i1 K w}(h:F246 i1 K w):CallF Tryz.prog 246 [.pointer i1] [tP] K w:=ctr Tryz.func246 A246 (by kernel_rfl) (by kernel_rfl) h
def A247 :=au Tryz.f247 [] []
def F247 (i1:Option Addr)(key2:Sl)(K:(Option Addr)->WP)(w:World):Prop:=LdF i1 0 tI (fun a0 w=>CallI Tryz.prog (IV.enc a0) "SeekGE" [key2.v] [tP] (fun r5 w=>CallF Tryz.prog 249 [.pointer i1,.pointer r5] [tP] (fun r6 w=>CallF Tryz.prog 251 [.pointer i1,.pointer r6] [tP] (fun r7 w=>CallF Tryz.prog 250 [.pointer i1,.pointer r7] [tP] (fun r8 w=>K r8 w) w) w) w) w) w
theorem call247 {i1 key2 K w}(h:F247 i1 key2 K w):CallF Tryz.prog 247 [.pointer i1,key2.v] [tP] K w:=ctr Tryz.func247 A247 (by kernel_rfl) (by kernel_rfl) h
def A249 :=au Tryz.f249 [(4,[(22,tB)])] []
def F249 (i1:Option Addr)(span2:Option Addr)(K:(Option Addr)->WP)(w:World):Prop:=Tr.Join (fun(s3:Bool) w=>(if s3=true then LdF i1 3 tF (fun a0 w=>LdF span2 0 tS (fun a1 w=>CallV Tryz.prog (FV.enc a0) [a1.v] [ti64] (fun(r9:Int) w=>LdF i1 2 tF (fun a2 w=>LdF span2 0 tS (fun a3 w=>(0<=r9/\r9<=(a3.c:Int))/\LdF i1 7 tP (fun a4 w=> ∃a5,a4=some a5/\Ld tS a5 (fun a6 w=>CallV Tryz.prog (FV.enc a2) [.slice a3.a r9.toNat a3.c,a6.v] [ti64] (fun(a7:Int) w=>(if(decide (a7>0))=true then K none w else K span2 w)) w) w) w) w) w.drew) w) w) w.drew else K span2 w)) (fun a8=>(if(!(span2).isNone)=true then LdF i1 6 tP (fun a9 w=>(if(!(a9).isNone)=true then LdF i1 6 tP (fun aa w=> ∃ab,aa=some ab/\Ld tB ab (fun(ac:Bool) w=>a8 ac w) w) w else a8 false w)) w else a8 false w))
theorem call249 {i1 span2 K w}(h:F249 i1 span2 K w):CallF Tryz.prog 249 [.pointer i1,.pointer span2] [tP] K w:=ctr Tryz.func249 A249 (by kernel_rfl) (by kernel_rfl) h
def A250 :=au Tryz.f250 [(3,[(1,tP)])] []
def F250 (i1:Option Addr)(span2:Option Addr)(K:(Option Addr)->WP)(w:World):Prop:=Tr.Join (fun(s3:Option Addr) w=>StF i1 1 (.pointer s3) (fun w=>LdF i1 8 ti8 (fun(a0:Int) w=>(if(a0 !=0)=true then StF i1 8 (.int .i8 0) (fun w=>K s3 w) w else K s3 w)) w) w) (fun a1=>(if(!(span2).isNone)=true then LdF i1 5 tS (fun a2 w=>(if(!(a2.a).isNone)=true then LdF i1 2 tF (fun a3 w=>LdF span2 0 tS (fun a4 w=>LdF i1 5 tS (fun a5 w=>CallV Tryz.prog (FV.enc a3) [a4.v,a5.v] [ti64] (fun(a6:Int) w=>(if(decide (a6>=(0:Int)))=true then a1 none w else a1 span2 w)) w) w) w) w else a1 span2 w)) w.drew else a1 span2 w.drew))
theorem call250 {i1 span2 K w}(h:F250 i1 span2 K w):CallF Tryz.prog 250 [.pointer i1,.pointer span2] [tP] K w:=ctr Tryz.func250 A250 (by kernel_rfl) (by kernel_rfl) h
def A251 :=au Tryz.f251 [] []
def F251 (i1:Option Addr)(span2:Option Addr)(K:(Option Addr)->WP)(w:World):Prop:=(if(!(span2).isNone)=true then LdF i1 6 tP (fun a0 w=>(if(!(a0).isNone)=true then LdF i1 6 tP (fun a1 w=> ∃p7,a1=some p7/\Ld tB p7 (fun(x8:Bool) w=>(if x8=true then LdF i1 2 tF (fun a2 w=>LdF span2 1 tS (fun a3 w=>LdF i1 7 tP (fun a4 w=> ∃a5,a4=some a5/\Ld tS a5 (fun a6 w=>CallV Tryz.prog (FV.enc a2) [a3.v,a6.v] [ti64] (fun(a7:Int) w=>(if(decide (a7<=(0:Int)))=true then K none w else K span2 w)) w) w) w) w) w else K span2 w)) w) w else K span2 w)) w.drew else K span2 w.drew)
theorem call251 {i1 span2 K w}(h:F251 i1 span2 K w):CallF Tryz.prog 251 [.pointer i1,.pointer span2] [tP] K w:=ctr Tryz.func251 A251 (by kernel_rfl) (by kernel_rfl) h
def A252 :=au Tryz.f252 [(3,[(1,tP)])] []
def F252 (i1:Option Addr)(span2:Option Addr)(K:(Option Addr)->WP)(w:World):Prop:=Tr.Join (fun(s3:Option Addr) w=>StF i1 1 (.pointer s3) (fun w=>LdF i1 8 ti8 (fun(a0:Int) w=>(if(a0 !=0)=true then StF i1 8 (.int .i8 0) (fun w=>K s3 w) w else K s3 w)) w) w) (fun a1=>(if(!(span2).isNone)=true then LdF i1 4 tS (fun a2 w=>(if(!(a2.a).isNone)=true then LdF i1 2 tF (fun a3 w=>LdF span2 1 tS (fun a4 w=>LdF i1 4 tS (fun a5 w=>CallV Tryz.prog (FV.enc a3) [a4.v,a5.v] [ti64] (fun(a6:Int) w=>(if(decide (a6<=(0:Int)))=true then a1 none w else a1 span2 w)) w) w) w) w else a1 span2 w)) w.drew else a1 span2 w.drew))
theorem call252 {i1 span2 K w}(h:F252 i1 span2 K w):CallF Tryz.prog 252 [.pointer i1,.pointer span2] [tP] K w:=ctr Tryz.func252 A252 (by kernel_rfl) (by kernel_rfl) h
end
end Go.Proofs.YtpkoddfamelnhaaGreatDoor
namespace Go.Tr
theorem Sat.t1 {w}{a b:Chunk}{L}(h:Sat w (a::b::L)):Sat w (b::a::L):=h.take .k1
theorem Sat.t2 {w}{a b c:Chunk}{L}(h:Sat w (a::b::c::L)):Sat w (c::a::b::L):=h.take .k2
theorem Sat.t3 {w}{a b c d:Chunk}{L}(h:Sat w (a::b::c::d::L)):Sat w (d::a::b::c::L):=h.take .k3
theorem Sat.t4 {w}{a b c d e:Chunk}{L}(h:Sat w (a::b::c::d::e::L)):Sat w (e::a::b::c::d::L):=h.take .k4
theorem Sat.t5 {w}{a b c d e f:Chunk}{L}(h:Sat w (a::b::c::d::e::f::L)):Sat w (f::a::b::c::d::e::L):=h.take .k5
theorem ifdf {p:Prop}[Decidable p]{A B:Prop}(a:p->B)(b: ¬p->A):if decide p=false then A else B:=by
 by_cases h:p
 ·rw[if_neg (by simpa using h)];exact a h
 ·rw[if_pos (by simpa using h)];exact b h
theorem Sat.famGet {w:World}{k i:Nat}{c:Nat->Chunk}{L}{α:Type}{P:α->Prop}{V:α->Value}{p:Addr}(h:Sat w (Fam k c::L))(hi:i<k)
  (f: ∀g,c i g-> ∃x,P x/\g p=some (V x,false)): ∃x,P x/\w.cell? p=some (V x):=by
 obtain⟨g,hc,hg,_⟩:=h.fam_out hi
 obtain⟨x,hx,e⟩:=f g hc
 exact⟨x,hx,(hg _ _ e).1⟩
theorem Sat.arrGet {w:World}{p:Addr}{vs:List Value}{L}(h:Sat w (Arr p vs::L)){k:Nat}{v:Value}(e:vs[k]? =some v):w.cell? (p.add k)=some v:=(h.get (at_arr e)).1
end Go.Tr
namespace Go.Proofs.YtpkoddfamelnhaaGreatDoor
open Go Go.Tr
set_option maxRecDepth 100000
structure HX where
 D:Hp
 k:Nat
 q:Nat->Addr
 key:Nat->ByteArray
 levs:Nat->Chunk
 ok:Nat->Prop
 okk: ∀l,ok l->l<k
 hkey: ∀l,ok l-> ∀g,levs l g-> ∃x:Sl,(BytesAt D x (key l)/\x.a.isSome=true)/\g ((q l).add 2)=some (.slice x.a x.n x.c,false)
def slot (X:HX)(a:Addr)(N:Nat)(f:Nat->Nat)(j:Nat):Chunk:=
 if j<N then Arr (a.add (j*2)) [.pointer (some ((X.q (f j)).add 1)),.int .i64 (f j)]else fun g=> ∃u v,Arr (a.add (j*2)) [u,v] g
def hp (X:HX)(h a:Addr)(rev:Bool)(N C:Nat)(f:Nat->Nat)(R:List Chunk):List Chunk:=
 Arr h [cmpV,.bool rev,.slice (some a) N C]::Fam C (slot X a N f)::Fam X.k X.levs::Own X.D::R
def hlt (X:HX)(rev:Bool)(x y:Nat):Bool:=if rev then decide (bcmp (X.key x) (X.key y)>0)else decide (bcmp (X.key x) (X.key y)<0)
theorem slot_lt {X:HX}{a:Addr}{N:Nat}{f:Nat->Nat}{j:Nat}(h:j<N):slot X a N f j=Arr (a.add (j*2)) [.pointer (some ((X.q (f j)).add 1)),.int .i64 (f j)]:=if_pos h
theorem slotRead {X:HX}{h a:Addr}{rev:Bool}{N C:Nat}{f:Nat->Nat}{R}{w:World}(hs:Sat w (hp X h a rev N C f R))(hN:N<=C){j:Nat}(hj:j<N):
  w.cell? (a.add (j*2))=some (.pointer (some ((X.q (f j)).add 1)))/\w.cell? ((a.add (j*2)).add 1)=some (.int .i64 (f j)):=by
 have h1:=(hs.t1).fam_out (i:=j) om
 rw[slot_lt hj]at h1
 exact⟨h1.arrGet (k:=0) rfl,h1.arrGet (k:=1) rfl⟩
theorem keyRead {X:HX}{h a:Addr}{rev:Bool}{N C:Nat}{f:Nat->Nat}{R}{w:World}(hs:Sat w (hp X h a rev N C f R)){l:Nat}(hl:X.ok l):
  ∃x:Sl,(BytesAt X.D x (X.key l)/\x.a.isSome=true)/\w.cell? ((X.q l).add 2)=some (.slice x.a x.n x.c):=(hs.t2).famGet (X.okk l hl) (X.hkey l hl)
theorem spec237 {X:HX}{h a:Addr}{rev:Bool}{N C:Nat}{f:Nat->Nat}{R w}{i j:Int}{K:Bool->WP}(hs:Sat w (hp X h a rev N C f R))(hN:N<=C)
  (hfi:X.ok (f i.toNat)) (hfj:X.ok (f j.toNat)) (hi:0<=i/\i<N) (hj:0<=j/\j<N) (k: ∀w',Sat w' (hp X h a rev N C f R)->K (hlt X rev (f i.toNat) (f j.toNat)) w'):F237 (some h) i j K w:=by
 unfold F237
 have h0:=hs
 unfold hp at h0
 have s1:=slotRead hs hN (j:=i.toNat) om
 have s2:=slotRead hs hN (j:=j.toNat) om
 obtain⟨x,hx,ex⟩:=keyRead hs hfi
 obtain⟨y,hy,ey⟩:=keyRead hs hfj
 refine⟨_,rfl,Ld1 h0 ⟨hi,_,rfl,LdC s1.1 ⟨_,rfl,?_⟩⟩⟩
 refine LdC (v:=.slice x.a x.n x.c) (by rw[Addr.add_add];exact ex) ⟨_,rfl,Ld1 h0 ⟨hj,_,rfl,LdC s2.1 ⟨_,rfl,?_⟩⟩⟩
 refine LdC (v:=.slice y.a y.n y.c) (by rw[Addr.add_add];exact ey) ⟨_,rfl,Ld1 h0 ?_⟩
 refine callCmp (a:=⟨x.a,x.n,x.c⟩) (b:=⟨y.a,y.n,y.c⟩) (h0.near.rdB .k3 hx.1) (h0.near.rdB .k3 hy.1) ⟨_,rfl,Ld1 h0 ?_⟩
 unfold hlt at k
 cases rev
 ·exact k _ hs.near
 ·exact k _ hs.near
theorem slotSet {X:HX}{h a:Addr}{rev:Bool}{N C:Nat}{f:Nat->Nat}{R w}{K:WP}(hs:Sat w (hp X h a rev N C f R))(hN:N<=C){j l:Nat}(hj:j<N)
  (k: ∀w',Sat w' (hp X h a rev N C (upd f j l) R)->K w'):StL (a.add (j*2)) [.pointer (some ((X.q l).add 1)),.int .i64 l] K w:=by
 have h1:=(hs.t1).fam_out (i:=j) om
 rw[slot_lt hj]at h1
 refine StL_of (St1 h1 rfl fun w h1=>St1 h1 rfl fun w h1=>k w ?_)
 have h2:=h1.fam_in om
 refine Sat.t1 ?_
 rw[Fam.congr (d:=slot X a N (upd f j l))]at h2
 ·exact h2
 ·intro i hi
  by_cases e:i=j
  ·subst e;rw[upd_same,slot_lt hj,upd_same]
  ·rw[upd_other e];unfold slot;rw[upd_other e]
theorem spec234 {X:HX}{h a:Addr}{rev:Bool}{N C:Nat}{f:Nat->Nat}{R w}{i j:Int}{K:Unit->WP}(hs:Sat w (hp X h a rev N C f R))(hN:N<=C)
  (hi:0<=i/\i<N) (hj:0<=j/\j<N) (k: ∀w',Sat w' (hp X h a rev N C (upd (upd f i.toNat (f j.toNat)) j.toNat (f i.toNat)) R)->K () w'):F234 (some h) i j K w:=by
 unfold F234
 have h0:=hs
 unfold hp at h0
 have s1:=slotRead hs hN (j:=i.toNat) om
 have s2:=slotRead hs hN (j:=j.toNat) om
 refine⟨_,rfl,Ld1 h0 ⟨_,rfl,Ld1 h0 ⟨_,rfl,Ld1 h0 ⟨hj,_,rfl,?_⟩⟩⟩⟩
 have r1:RdL w.drew (a.add (i.toNat*2)) [.pointer (some ((X.q (f i.toNat)).add 1)),.int .i64 (f i.toNat)]:=by
  intro m v e
  match m,e with
  |0,e=>injection e with e;rw[<-e];exact s1.1
  |1,e=>injection e with e;rw[<-e];exact s1.2
 have r2:RdL w.drew (a.add (j.toNat*2)) [.pointer (some ((X.q (f j.toNat)).add 1)),.int .i64 (f j.toNat)]:=by
  intro m v e
  match m,e with
  |0,e=>injection e with e;rw[<-e];exact s2.1
  |1,e=>injection e with e;rw[<-e];exact s2.2
 refine LdR r2 ⟨_,rfl,Ld1 h0 ⟨hi,_,rfl,LdR r1 ⟨hi,_,rfl,?_⟩⟩⟩
 refine slotSet hs.near hN om fun w hs=>?_
 refine⟨hj,_,rfl,slotSet hs hN om fun w hs=>k w hs⟩
structure SW {α:Type}(lt:α->α->Bool):Prop where
 asymm: ∀a b,lt a b=true->lt b a=false
 ntrans: ∀a b c,lt a b=false->lt b c=false->lt a c=false
def HInv {α:Type}(lt:α->α->Bool)(f:Nat->α)(n i0 i:Nat):Prop:=
 (∀m,0<m->m<n->i0<=(m-1)/2->(m-1)/2≠i->lt (f m) (f ((m-1)/2))=false)/\(i0<i-> ∀m,0<m->m<n->(m-1)/2=i->lt (f m) (f ((i-1)/2))=false)
def HeapFrom {α:Type}(lt:α->α->Bool)(f:Nat->α)(n i0:Nat):Prop:= ∀m,0<m->m<n->i0<=(m-1)/2->lt (f m) (f ((m-1)/2))=false
theorem HInv.start {α:Type}{lt:α->α->Bool}{f:Nat->α}{n i:Nat}(h:HeapFrom lt f n (i+1)):HInv lt f n i i:=
 ⟨fun m h0 h1 h2 h3=>h m h0 h1 om,fun h=>absurd h (Nat.lt_irrefl _)⟩
theorem HInv.stop1 {α:Type}{lt:α->α->Bool}{f:Nat->α}{n i0 i:Nat}(h:HInv lt f n i0 i)(hn:n<=2*i+1):HeapFrom lt f n i0:=
 fun m h0 h1 h2=>h.1 m h0 h1 h2 om
theorem HInv.stop2 {α:Type}{lt:α->α->Bool}(hw:SW lt){f:Nat->α}{n i0 i j:Nat}(h:HInv lt f n i0 i)(hj: ∀m,0<m->m<n->(m-1)/2=i->lt (f m) (f j)=false)(hs:lt (f j) (f i)=false):
  HeapFrom lt f n i0:=fun m h0 h1 h2=>by
 by_cases e:(m-1)/2=i
 ·rw[e];exact hw.ntrans _ _ _ (hj m h0 h1 e) hs
 ·exact h.1 m h0 h1 h2 e
theorem HInv.step {α:Type}{lt:α->α->Bool}(hw:SW lt){f:Nat->α}{n i0 i j:Nat}(hi:i0<=i)(h:HInv lt f n i0 i)(hj: ∀m,0<m->m<n->(m-1)/2=i->lt (f m) (f j)=false)
  (hji:0<j/\j<n/\(j-1)/2=i) (hs:lt (f j) (f i)=true):HInv lt (upd (upd f i (f j)) j (f i)) n i0 j:=by
 have hne:i≠j:=by omega
 have fj:upd (upd f i (f j)) j (f i) j=f i:=upd_same _ _ _
 have fi:upd (upd f i (f j)) j (f i) i=f j:=by rw[upd_other hne,upd_same]
 have fo: ∀m,m≠i->m≠j->upd (upd f i (f j)) j (f i) m=f m:=fun m h1 h2=>by rw[upd_other h2,upd_other h1]
 refine⟨fun m h0 h1 h2 h3=>?_,fun _ m h0 h1 h2=>?_⟩
 ·by_cases em:m=j
  ·subst em;rw[fj,hji.2.2,fi];exact hw.asymm _ _ hs
  ·by_cases ei:m=i
   ·subst ei
    rw[fi,fo ((m-1)/2) om h3]
    have:i0<m:=by omega
    exact h.2 this j hji.1 hji.2.1 hji.2.2
   ·rw[fo m ei em]
    by_cases ep:(m-1)/2=i
    ·rw[ep,fi];exact hj m h0 h1 ep
    ·rw[fo _ ep h3];exact h.1 m h0 h1 h2 ep
 ·have e1:m≠j:=by omega
  have e2:m≠i:=by omega
  rw[fo m e2 e1,hji.2.2,fi]
  have:=h.1 m h0 h1 om om
  rwa[h2]at this
def SameN (n:Nat)(f f':Nat->Nat):Prop:= ∃σ τ:Nat->Nat,(∀j,σ (τ j)=j)/\(∀j,τ (σ j)=j)/\(∀j,j<n->σ j<n)/\(∀j,n<=j->σ j=j)/\ ∀j,f' j=f (σ j)
theorem SameN.refl (n:Nat)(f:Nat->Nat):SameN n f f:=⟨id,id,fun _=>rfl,fun _=>rfl,fun _ h=>h,fun _ _=>rfl,fun _=>rfl⟩
theorem SameN.trans {n:Nat}{f g h:Nat->Nat}(a:SameN n f g)(b:SameN n g h):SameN n f h:=by
 obtain⟨σ,τ,h1,h2,h3,h4,h5⟩:=a
 obtain⟨σ',τ',k1,k2,k3,k4,k5⟩:=b
 exact⟨fun j=>σ (σ' j),fun j=>τ' (τ j),fun j=>by dsimp only;rw[k1,h1],fun j=>by dsimp only;rw[h2,k2],fun j hj=>h3 _ (k3 _ hj),fun j hj=>by dsimp only;rw[k4 _ hj,h4 _ hj],fun j=>by rw[k5,h5]⟩
theorem SameN.swap {n:Nat}(f:Nat->Nat){i j:Nat}(hi:i<n)(hj:j<n):SameN n f (upd (upd f i (f j)) j (f i)):=by
 refine⟨fun m=>if m=j then i else if m=i then j else m,fun m=>if m=j then i else if m=i then j else m,fun m=>?_,fun m=>?_,fun m hm=>?_,fun m hm=>?_,fun m=>?_⟩
 ·by_cases e1:m=j<;>by_cases e2:m=i<;>by_cases e3:i=j<;>simp_all
 ·by_cases e1:m=j<;>by_cases e2:m=i<;>by_cases e3:i=j<;>simp_all
 ·dsimp only;split
  ·exact hi
  ·split
   ·exact hj
   ·exact hm
 ·dsimp only;rw[if_neg om,if_neg om]
 ·dsimp only;unfold upd;split
  ·rfl
  ·split<;>rfl
theorem SameN.lt {n:Nat}{f f':Nat->Nat}(h:SameN n f f'){P:Nat->Prop}(hf: ∀j,j<n->P (f j)): ∀j,j<n->P (f' j):=by
 obtain⟨σ,τ,h1,h2,h3,h4,h5⟩:=h
 intro j hj;rw[h5];exact hf _ (h3 _ hj)
theorem SameN.mono {n n':Nat}{f f':Nat->Nat}(h:SameN n f f')(hn:n<=n'):SameN n' f f':=by
 obtain⟨σ,τ,h1,h2,h3,h4,h5⟩:=h
 refine⟨σ,τ,h1,h2,fun j hj=>?_,fun j hj=>h4 j om,h5⟩
 by_cases e:j<n
 ·have:=h3 j e;omega
 ·rw[h4 j om];exact hj
theorem spec233 {X:HX}{h a:Addr}{rev:Bool}{N C:Nat}{f:Nat->Nat}{R w}{i0 n:Nat}{K:Bool->WP}(hw:SW (hlt X rev))(hs:Sat w (hp X h a rev N C f R))(hN:N<=C)
  (hC:C<2^40) (hf: ∀j,j<n->X.ok (f j)) (hi:i0<=N) (hn:n<=N) (hh:HeapFrom (hlt X rev) f n (i0+1))
  (k: ∀b f' w',SameN n f f'->HeapFrom (hlt X rev) f' n i0->Sat w' (hp X h a rev N C f' R)->K b w'):F233 (some h) i0 n K w:=by
 unfold F233
 refine⟨fun m (s:Int) w=> ∃(f':Nat->Nat) (i:Nat),s=i/\i0<=i/\i<=N/\m=N-i/\SameN n f f'/\HInv (hlt X rev) f' n i0 i/\Sat w (hp X h a rev N C f' R),⟨_,f,i0,rfl,Nat.le_refl _,hi,rfl,SameN.refl _ _,HInv.start hh,hs⟩,?_⟩
 clear hs hh
 rintro m s w ⟨f',i,rfl,hi0,hiN,rfl,hsm,hinv,hs⟩
 have e1:IntKind.i64.wrap ((IntKind.i64.wrap (2*(i:Int)))+1)=2*i+1:=by
  rw[wi64 (x:=2*(i:Int)) om om,wi64 om om]
 have e2:IntKind.i64.wrap ((2*(i:Int)+1)+1)=2*i+2:=by rw[wi64 om om];omega
 have hf':=hsm.lt (P:=X.ok) hf
 simp only[e1,e2]
 refine⟨fun _ w=>2*i+1<n/\Sat w (hp X h a rev N C f' R),?_,?_⟩
 ·rintro x w ⟨hlt1,hs⟩
  refine⟨fun(x:Int) w=> ∃j:Nat,x=j/\0<j/\j<n/\(j-1)/2=i/\(∀m,0<m->m<n->(m-1)/2=i->hlt X rev (f' m) (f' j)=false)/\Sat w (hp X h a rev N C f' R),?_,?_⟩
  ·rintro x w ⟨j,rfl,hj0,hjn,hjp,hmin,hs⟩
   refine call237 (spec237 hs hN (hf' _ om) (hf' _ om) om om fun w hs=>?_)
   refine ifn (fun hl=>?_) (fun hl=>?_)
   ·exact k _ _ _ hsm (hinv.stop2 hw hmin (by simpa using hl)) hs
   ·refine call234 (spec234 hs hN om om fun w hs=>?_)
    refine⟨_,?_,_,j,rfl,by omega,by omega,rfl,hsm.trans (SameN.swap f' (i:=i) (j:=j) om hjn),hinv.step hw hi0 hmin ⟨hj0,hjn,hjp⟩ (by simpa using hl),by simpa using hs⟩
    omega
  ·refine ifd (fun hc=>?_) (fun hc=>?_)
   ·refine call237 (spec237 hs hN (hf' _ om) (hf' _ om) om om fun w hs=>?_)
    have t1:(2*(i:Int)+1).toNat=2*i+1:=by omega
    have t2:(2*(i:Int)+2).toNat=2*i+2:=by omega
    rw[t1,t2]
    refine ifb (fun hl=>?_) (fun hl=>?_)
    ·refine⟨2*i+2,by omega,by omega,by omega,by omega,fun m h0 h1 h2=>?_,hs⟩
     have hm:m=2*i+1\/m=2*i+2:=by omega
     rcases hm with rfl|rfl
     ·exact hw.asymm _ _ hl
     ·cases hq:hlt X rev (f' (2*i+2)) (f' (2*i+2))with
      |false=>rfl
      |true=>have:=hw.asymm _ _ hq;rw[hq]at this;exact this
    ·refine⟨2*i+1,by omega,by omega,by omega,by omega,fun m h0 h1 h2=>?_,hs⟩
     have hm:m=2*i+1\/m=2*i+2:=by omega
     rcases hm with rfl|rfl
     ·cases hq:hlt X rev (f' (2*i+1)) (f' (2*i+1))with
      |false=>rfl
      |true=>have:=hw.asymm _ _ hq;rw[hq]at this;exact this
     ·exact hl
   ·refine⟨2*i+1,by omega,by omega,hlt1,by omega,fun m h0 h1 h2=>?_,hs⟩
    have hm:m=2*i+1:=by omega
    subst hm
    cases hq:hlt X rev (f' (2*i+1)) (f' (2*i+1))with
    |false=>rfl
    |true=>have:=hw.asymm _ _ hq;rw[hq]at this;exact this
 ·refine ifdf (fun hc=>?_) (fun hc=>?_)
  ·exact k _ _ _ hsm (hinv.stop1 om) hs
  ·refine ifd (fun hc'=>by omega) (fun hc'=>?_)
   exact⟨by omega,hs⟩
theorem spec209 {X:HX}{h a:Addr}{rev:Bool}{N C:Nat}{f:Nat->Nat}{R w}{K:Int->WP}(hs:Sat w (hp X h a rev N C f R))
  (k:K N w):F209 (some h) K w:=by
 unfold hp at hs
 exact⟨_,rfl,Ld1 hs k⟩
theorem spec235 {h:Addr}{w}{K:Unit->WP}(k:K () w):F235 (some h) 0 K w:=by
 unfold F235
 refine⟨fun _ (s:Int) w'=>s=0/\w'=w,⟨0,rfl,rfl⟩,?_⟩
 rintro m s w' ⟨rfl,rfl⟩
 refine⟨by omega,?_⟩
 have e:IntKind.i64.wrap ((IntKind.i64.wrap ((0:Int)-1)).tdiv 2)=0:=by
  rw[wi64 (x:=(0:Int)-1) om om];rfl
 rw[e,if_neg (by simp)]
 exact k
theorem spec230 {X:HX}{h a:Addr}{rev:Bool}{N C:Nat}{f:Nat->Nat}{R w}{K:Unit->WP}(hw:SW (hlt X rev))(hs:Sat w (hp X h a rev N C f R))(hN:N<=C)
  (hC:C<2^40) (hf: ∀j,j<N->X.ok (f j)) (hh:HeapFrom (hlt X rev) f N 1)
  (k: ∀f' w',SameN N f f'->HeapFrom (hlt X rev) f' N 0->Sat w' (hp X h a rev N C f' R)->K () w'):F230 (some h) 0 K w:=by
 unfold F230
 refine call209 (spec209 hs (call233 (spec233 (i0:=0) (n:=N) hw hs hN hC hf om (Nat.le_refl _) hh fun b f' w' h1 h2 h3=>?_)))
 refine ifn (fun _=>?_) (fun _=>?_)
 ·exact call235 (spec235 (k _ _ h1 h2 h3))
 ·exact k _ _ h1 h2 h3
theorem spec228 {X:HX}{h a:Addr}{rev:Bool}{N C:Nat}{f:Nat->Nat}{R w}{K:Unit->WP}(hw:SW (hlt X rev))(hs:Sat w (hp X h a rev N C f R))(hN:N<=C)
  (hC:C<2^40) (hf: ∀j,j<N->X.ok (f j))
  (k: ∀f' w',SameN N f f'->HeapFrom (hlt X rev) f' N 0->Sat w' (hp X h a rev N C f' R)->K () w'):F228 (some h) K w:=by
 unfold F228
 refine call209 (spec209 hs ⟨by omega,?_⟩)
 have e:IntKind.i64.wrap ((IntKind.i64.wrap ((N:Int).tdiv 2))-1)=(N:Int)/2-1:=by
  rw[Int.tdiv_eq_ediv_of_nonneg om,wi64 (x:=(N:Int)/2) om om,wi64 om om]
 rw[e]
 refine⟨fun m (s:Int) w=> ∃(f':Nat->Nat) (i:Nat),s=(i:Int)-1/\i<=N/\m=i/\SameN N f f'/\HeapFrom (hlt X rev) f' N i/\Sat w (hp X h a rev N C f' R),⟨_,f,N/2,by omega,by omega,rfl,SameN.refl _ _,?_,hs⟩,?_⟩
 ·intro m h0 h1 h2;omega
 rintro m s w ⟨f',i,rfl,hi,hm,h1,h2,hs⟩
 refine ifd (fun hc=>?_) (fun hc=>?_)
 ·have e:((i:Int)-1)=((i-1:Nat):Int):=by omega
  rw[e]
  refine call233 (spec233 (i0:=i-1) (n:=N) hw hs hN hC (h1.lt hf) om (Nat.le_refl _) (by rw[show i-1+1=i by omega];exact h2) fun b f'' w' h3 h4 h5=>?_)
  refine⟨i-1,by omega,f'',i-1,?_,by omega,rfl,h1.trans h3,h4,h5⟩
  rw[wi64 om om]
 ·have:i=0:=by omega
  subst this
  exact k _ _ h1 h2 hs
theorem hp_shrink {X:HX}{h a:Addr}{rev:Bool}{N M C:Nat}{f:Nat->Nat}{R w}(hs:Sat w (Arr h [cmpV,.bool rev,.slice (some a) M C]::Fam C (slot X a N f)::Fam X.k X.levs::Own X.D::R))(hM:M<=N):
  Sat w (hp X h a rev M C f R):=by
 have key: ∀k,∀U (L:List Chunk),SatU w U (Fam k (slot X a N f)::L)->SatU w U (Fam k (slot X a M f)::L):=by
  intro k
  induction k with
  |zero=>exact fun _ _ h=>h
  | succ k ih =>
   intro U L h
   simp only[Fam]at h|-
   refine SatU.star.2 (SatU.under (fun U h=>ih U L h) U ?_)
   obtain⟨g,hc,hg,hr⟩:=SatU.star.1 h
   refine⟨g,?_,hg,hr⟩
   unfold slot at hc|-
   by_cases h1:k<M
   ·rw[if_pos h1];rwa[if_pos om]at hc
   ·rw[if_neg h1]
    by_cases h2:k<N
    ·rw[if_pos h2]at hc;exact⟨_,_,hc⟩
    ·rwa[if_neg h2]at hc
 unfold hp
 exact SatU.under (fun U h=>key C U _ h) _ hs
theorem spec229 {X:HX}{h a:Addr}{rev:Bool}{N C:Nat}{f:Nat->Nat}{R w}{K:Option Addr->WP}(hw:SW (hlt X rev))(hs:Sat w (hp X h a rev N C f R))(hN:N<=C)(hN0:0<N)
  (hC:C<2^40) (hf: ∀j,0<j->j<N->X.ok (f j)) (hh:HeapFrom (hlt X rev) f N 1)
  (k: ∀r f' w',SameN (N-1) (upd (upd f 0 (f (N-1))) (N-1) (f 0)) f'->HeapFrom (hlt X rev) f' (N-1) 0->Sat w' (hp X h a rev (N-1) C f' R)->K r w'):F229 (some h) K w:=by
 unfold F229
 have e:IntKind.i64.wrap ((N:Int)-1)=((N-1:Nat):Int):=by rw[wi64 om om];omega
 refine call209 (spec209 hs ?_)
 simp only[e]
 refine call234 (spec234 hs hN om om fun w hs=>?_)
 simp only[Int.toNat_zero,Int.toNat_natCast]at hs
 have hf': ∀j,j<N-1->X.ok (upd (upd f 0 (f (N-1))) (N-1) (f 0) j):=fun j hj=>by
  rw[upd_other om]
  by_cases e:j=0
  ·subst e;rw[upd_same];exact hf _ om om
  ·rw[upd_other e];exact hf _ om om
 refine call233 (spec233 (i0:=0) (n:=N-1) hw hs hN hC hf' om om ?_ fun b f' w h1 h2 hs=>?_)
 ·intro m h0 h1 h2
  have h3:=hh m h0 om om
  rw[upd_other om,upd_other om,upd_other om,upd_other om]
  exact h3
 have hs0:=hs
 unfold hp at hs
 refine⟨_,rfl,Ld1 hs ⟨⟨by omega,by dsimp only;omega⟩,_,rfl,_,rfl,Ld1 hs ⟨⟨by omega,by dsimp only;omega⟩,_,rfl,St1 hs rfl fun w hs=>?_⟩⟩⟩
 refine k _ f' _ h1 h2 (hp_shrink (N:=N) ?_ om)
 simpa using hs
theorem swX (X:HX)(rev:Bool):SW (hlt X rev):=by
 refine⟨fun a b h=>?_,fun a b c h k=>?_⟩
 ·unfold hlt at*
  have:=bcmp_anti (X.key a) (X.key b)
  cases rev<;>simp at* <;>omega
 ·unfold hlt at*
  have h1:=bcmp_anti (X.key a) (X.key b)
  have h2:=bcmp_anti (X.key b) (X.key c)
  have h3:=bcmp_anti (X.key a) (X.key c)
  cases rev
  ·simp only[Bool.false_eq_true,if_false,decide_eq_false_iff_not,Int.not_lt]at*
   have:=bcmp_trans (s:=X.key c) (t:=X.key b) (u:=X.key a) om om
   omega
  ·simp only[if_true,decide_eq_false_iff_not,Int.not_lt,gt_iff_lt]at*
   exact bcmp_trans h k
end Go.Proofs.YtpkoddfamelnhaaGreatDoor
