/- Part 12 of the proof of fnBatchHistory_card. Conditions: none. -/
import Derived.Test.YtpkoddfamelnhaaGreatDoorH11
set_option linter.unusedVariables false
set_option linter.unusedSimpArgs false
namespace Go.Proofs.YtpkoddfamelnhaaGreatDoor
open Go Go.Tr
open Go.IntKind (i64 u64 u32 u8)
set_option maxRecDepth 1000000
set_option linter.unusedVariables false
noncomputable section
def A114 :=au Tryz.f114 [] []
def F114 (b1:Option Addr)(keyLen2:Int)(valueLen3:Int)(K:(Option Addr)->WP)(w:World):Prop:=CallF Tryz.prog 143 [.pointer b1,.int .i64 keyLen2,.int .i64 valueLen3,.int .u8 1] [] (fun r4 w=> ∃p5,b1=some p5/\Ld tP ((p5.add 0).add 13) (fun a w=> ∃p7,b1=some p7/\St (((p7.add 0).add 9).add 0) (.pointer a) (fun w=> ∃p8,b1=some p8/\K (some ((p8.add 0).add 9)) w) w) w) w
theorem call114 {b1 keyLen2 valueLen3 K w}(h:F114 b1 keyLen2 valueLen3 K w):CallF Tryz.prog 114 [.pointer b1,.int .i64 keyLen2,.int .i64 valueLen3] [tP] K w:=ctr Tryz.func114 A114 (by kernel_rfl) (by kernel_rfl) h
def A115 :=au Tryz.f115 [] []
def F115 (b1:Option Addr)(keyLen2:Int)(valueLen3:Int)(K:(Option Addr)->WP)(w:World):Prop:=CallF Tryz.prog 143 [.pointer b1,.int .i64 keyLen2,.int .i64 valueLen3,.int .u8 2] [] (fun r4 w=> ∃p5,b1=some p5/\Ld tP ((p5.add 0).add 13) (fun a w=> ∃p7,b1=some p7/\St (((p7.add 0).add 9).add 0) (.pointer a) (fun w=> ∃p8,b1=some p8/\K (some ((p8.add 0).add 9)) w) w) w) w
theorem call115 {b1 keyLen2 valueLen3 K w}(h:F115 b1 keyLen2 valueLen3 K w):CallF Tryz.prog 115 [.pointer b1,.int .i64 keyLen2,.int .i64 valueLen3] [tP] K w:=ctr Tryz.func115 A115 (by kernel_rfl) (by kernel_rfl) h
def A116 :=au Tryz.f116 [(1,[]),(7,[])] [(31,[(6,ti64),(7,tu32)])]
def F116 (b1:Option Addr)(keyLen2:Int)(kind3:Int)(K:Unit->WP)(w:World):Prop:=Tr.Join (fun(s4:Unit) w=>Tr.Join (fun(s6:Unit) w=> ∃p8,b1=some p8/\Ld tu64 ((p8.add 0).add 6) (fun(a0:Int) w=> ∃a1,b1=some a1/\St ((a1.add 0).add 6) (.int .u64 (u64.wrap (a0+1))) (fun w=> ∃a2,b1=some a2/\Ld tu64 ((a2.add 0).add 4) (fun(a3:Int) w=>CallF Tryz.prog 144 [.int .i64 keyLen2,.int .i64 0] [tu64] (fun(a4:Int) w=>LdAt tu64 ((a2.add 0).add 4) a3 w/\ ∃a5,b1=some a5/\St ((a5.add 0).add 4) (.int .u64 (u64.wrap (a3+a4))) (fun w=> ∃a6,b1=some a6/\Ld tS ((a6.add 0).add 0) (fun a7 w=> ∃a8,b1=some a8/\St (((a8.add 0).add 9).add 3) (.int .u32 (u32.wrap (a7.n:Int))) (fun w=>CallF Tryz.prog 145 [.pointer b1,.int .i64 (i64.wrap ((6:Int)+keyLen2))] [] (fun a9 w=> ∃aa,b1=some aa/\Ld tS ((aa.add 0).add 0) (fun ab w=>(0<=(a7.n:Int)/\(a7.n:Int)<(ab.n:Int))/\(∃ac,ab.a=some ac/\St (ac.add (a7.n*1)) (.int .u8 kind3) (fun w=>Tr.Loop (fun(ad:(Int×Int)->WP) (s22:Int×Int) w=>(if(decide (s22.2>=(128:Int)))=true then∃ae,b1=some ae/\Ld tS ((ae.add 0).add 0) (fun af w=>(0<=s22.1/\s22.1<(af.n:Int))/\(∃ag,af.a=some ag/\St (ag.add (s22.1.toNat*1)) (.int .u8 (u8.wrap (BitVec.ofInt IntKind.u8.bits (u8.wrap s22.2)|||BitVec.ofInt IntKind.u8.bits (128:Int)).toNat)) (fun w=>0<=(7:Int)/\ad ((i64.wrap (s22.1+1)),((s22.2).fdiv (2^(min 7 IntKind.u32.bits)))) w) w)) w else∃ah,b1=some ah/\Ld tS ((ah.add 0).add 0) (fun ai w=>(0<=s22.1/\s22.1<(ai.n:Int))/\(∃aj,ai.a=some aj/\St (aj.add (s22.1.toNat*1)) (.int .u8 (u8.wrap s22.2)) (fun w=> ∃ak,b1=some ak/\Ld tS ((ak.add 0).add 0) (fun al w=>(0<=(i64.wrap (s22.1+1))/\(i64.wrap (s22.1+1))<=(i64.wrap ((i64.wrap (s22.1+1))+keyLen2))/\(i64.wrap ((i64.wrap (s22.1+1))+keyLen2))<=(al.c:Int))/\ ∃am,b1=some am/\St (((am.add 0).add 9).add 1) (.slice ((sub al.a 1 ((i64.wrap (s22.1+1)).toNat) ((i64.wrap ((i64.wrap (s22.1+1))+keyLen2)).toNat) al.c).a) ((i64.wrap ((i64.wrap (s22.1+1))+keyLen2)).toNat-(i64.wrap (s22.1+1)).toNat) (al.c-(i64.wrap (s22.1+1)).toNat)) (fun w=> ∃an,b1=some an/\St (((an.add 0).add 9).add 2) (.slice none 0 0) (fun w=> ∃ao,b1=some ao/\Ld tS ((ao.add 0).add 0) (fun ap w=>(0<=(i64.wrap ((i64.wrap (s22.1+1))+keyLen2))/\(i64.wrap ((i64.wrap (s22.1+1))+keyLen2))<=(ap.c:Int))/\ ∃aq,b1=some aq/\St ((aq.add 0).add 0) (.slice ap.a ((i64.wrap ((i64.wrap (s22.1+1))+keyLen2)).toNat) ap.c) (fun w=>K () w) w) w) w) w) w) w)) w)) ((i64.wrap ((a7.n:Int)+1)),(u32.wrap keyLen2)) w) w)) w) w) w) w) w) w) w.drew) w) w) (fun ar=> ∃au,b1=some au/\Ld tS ((au.add 0).add 0) (fun av w=>(if((av.n:Int)==0)=true then CallF Tryz.prog 127 [.pointer b1,.int .i64 (i64.wrap ((i64.wrap (keyLen2+10))+12))] [] (fun ax w=>ar () w) w else ar () w)) w)) (fun ay=> ∃az,b1=some az/\Ld tB ((az.add 0).add 24) (fun(b:Bool) w=>(if b=true then False else ay () w)) w)
theorem call116 {b1 keyLen2 kind3 K w}(h:F116 b1 keyLen2 kind3 K w):CallF Tryz.prog 116 [.pointer b1,.int .i64 keyLen2,.int .u8 kind3] [] K w:=ctr Tryz.func116 A116 (by kernel_rfl) (by kernel_rfl) h
def A117 :=au Tryz.f117 [] []
def F117 (b1:Option Addr)(keyLen2:Int)(K:(Option Addr)->WP)(w:World):Prop:=CallF Tryz.prog 116 [.pointer b1,.int .i64 keyLen2,.int .u8 7] [] (fun r3 w=> ∃p4,b1=some p4/\Ld tP ((p4.add 0).add 13) (fun a w=> ∃p6,b1=some p6/\St (((p6.add 0).add 9).add 0) (.pointer a) (fun w=> ∃p7,b1=some p7/\K (some ((p7.add 0).add 9)) w) w) w) w
theorem call117 {b1 keyLen2 K w}(h:F117 b1 keyLen2 K w):CallF Tryz.prog 117 [.pointer b1,.int .i64 keyLen2] [tP] K w:=ctr Tryz.func117 A117 (by kernel_rfl) (by kernel_rfl) h
def A118 :=au Tryz.f118 [] []
def F118 (b1:Option Addr)(startLen2:Int)(endLen3:Int)(K:(Option Addr)->WP)(w:World):Prop:=CallF Tryz.prog 143 [.pointer b1,.int .i64 startLen2,.int .i64 endLen3,.int .u8 15] [] (fun r4 w=> ∃p5,b1=some p5/\Ld tu64 ((p5.add 0).add 7) (fun(a:Int) w=> ∃p7,b1=some p7/\St ((p7.add 0).add 7) (.int .u64 (u64.wrap (a+1))) (fun w=> ∃p8,b1=some p8/\Ld tP ((p8.add 0).add 13) (fun a0 w=>(if(!(a0).isNone)=true then∃a1,b1=some a1/\St ((a1.add 0).add 16) (.slice none 0 0) (fun w=> ∃a2,b1=some a2/\St ((a2.add 0).add 17) (.int .u64 0) (fun w=> ∃a3,b1=some a3/\Ld tP ((a3.add 0).add 14) (fun a4 w=>(if((a4).isNone)=true then∃a5,b1=some a5/\ ∃a6,b1=some a6/\Ld tF ((a6.add 0).add 1) (fun a7 w=> ∃a8,b1=some a8/\Ld tF ((a8.add 0).add 3) (fun a9 w=>CallF Tryz.prog 146 [.pointer (some ((a5.add 0).add 0)),(FV.enc a7),(FV.enc a9)] [tP] (fun aa w=> ∃ab,b1=some ab/\St ((ab.add 0).add 14) (.pointer aa) (fun w=> ∃ac,b1=some ac/\Ld tP ((ac.add 0).add 14) (fun ad w=> ∃ae,b1=some ae/\St (((ae.add 0).add 9).add 0) (.pointer ad) (fun w=> ∃af,b1=some af/\K (some ((af.add 0).add 9)) w) w) w) w) w) w) w.drew else∃ag,b1=some ag/\Ld tP ((ag.add 0).add 14) (fun ah w=> ∃ai,b1=some ai/\St (((ai.add 0).add 9).add 0) (.pointer ah) (fun w=> ∃aj,b1=some aj/\K (some ((aj.add 0).add 9)) w) w) w)) w) w) w else∃ak,b1=some ak/\K (some ((ak.add 0).add 9)) w)) w) w) w) w
theorem call118 {b1 startLen2 endLen3 K w}(h:F118 b1 startLen2 endLen3 K w):CallF Tryz.prog 118 [.pointer b1,.int .i64 startLen2,.int .i64 endLen3] [tP] K w:=ctr Tryz.func118 A118 (by kernel_rfl) (by kernel_rfl) h
def A119 :=au Tryz.f119 [] []
def F119 (b1:Option Addr)(startLen2:Int)(endLen3:Int)(K:(Option Addr)->WP)(w:World):Prop:=CallF Tryz.prog 143 [.pointer b1,.int .i64 startLen2,.int .i64 endLen3,.int .u8 19] [] (fun r4 w=>CallF Tryz.prog 147 [.pointer b1] [] (fun r5 w=> ∃p6,b1=some p6/\K (some ((p6.add 0).add 9)) w) w) w
theorem call119 {b1 startLen2 endLen3 K w}(h:F119 b1 startLen2 endLen3 K w):CallF Tryz.prog 119 [.pointer b1,.int .i64 startLen2,.int .i64 endLen3] [tP] K w:=ctr Tryz.func119 A119 (by kernel_rfl) (by kernel_rfl) h
def A120 :=au Tryz.f120 [] []
def F120 (endKey1:Sl)(suffixes2:Sl)(K:Int->WP)(w:World):Prop:=CallF Tryz.prog 148 [.int .i64 (endKey1.n:Int)] [ti64] (fun(r3:Int) w=>CallF Tryz.prog 149 [suffixes2.v] [ti64] (fun(r4:Int) w=>K (i64.wrap ((i64.wrap (r3+(endKey1.n:Int)))+r4)) w) w) w
theorem call120 {endKey1 suffixes2 K w}(h:F120 endKey1 suffixes2 K w):CallF Tryz.prog 120 [endKey1.v,suffixes2.v] [ti64] K w:=ctr Tryz.func120 A120 (by kernel_rfl) (by kernel_rfl) h
def A121 :=au Tryz.f121 [] []
def F121 (b1:Option Addr)(startLen2:Int)(internalValueLen3:Int)(K:(Option Addr)->WP)(w:World):Prop:=CallF Tryz.prog 143 [.pointer b1,.int .i64 startLen2,.int .i64 internalValueLen3,.int .u8 20] [] (fun r4 w=>CallF Tryz.prog 147 [.pointer b1] [] (fun r5 w=> ∃p6,b1=some p6/\K (some ((p6.add 0).add 9)) w) w) w
theorem call121 {b1 startLen2 internalValueLen3 K w}(h:F121 b1 startLen2 internalValueLen3 K w):CallF Tryz.prog 121 [.pointer b1,.int .i64 startLen2,.int .i64 internalValueLen3] [tP] K w:=ctr Tryz.func121 A121 (by kernel_rfl) (by kernel_rfl) h
def A122 :=au Tryz.f122 [] []
def F122 (dst1:Sl)(endKey2:Sl)(suffixes3:Sl)(K:Int->WP)(w:World):Prop:=CallF Tryz.prog 150 [dst1.v,.int .u64 (u64.wrap (endKey2.n:Int))] [ti64] (fun(r4:Int) w=>(0<=r4/\r4<=(dst1.n:Int))/\CopyP si87 ⟨(sub dst1.a 1 r4.toNat dst1.n dst1.c).a,(dst1.n-r4.toNat),(dst1.c-r4.toNat)⟩ endKey2 (fun(c5:Int) w=>(0<=(i64.wrap (r4+c5))/\(i64.wrap (r4+c5))<=(dst1.n:Int))/\CallF Tryz.prog 151 [.slice ((sub dst1.a 1 ((i64.wrap (r4+c5)).toNat) dst1.n dst1.c).a) (dst1.n-(i64.wrap (r4+c5)).toNat) (dst1.c-(i64.wrap (r4+c5)).toNat),suffixes3.v] [ti64] (fun(r6:Int) w=>K (i64.wrap ((i64.wrap (r4+c5))+r6)) w) w) w) w
theorem call122 {dst1 endKey2 suffixes3 K w}(h:F122 dst1 endKey2 suffixes3 K w):CallF Tryz.prog 122 [dst1.v,endKey2.v,suffixes3.v] [ti64] K w:=ctr Tryz.func122 A122 (by kernel_rfl) (by kernel_rfl) h
def A123 :=au Tryz.f123 [] []
def F123 (endKey1:Sl)(suffixValues2:Sl)(K:Int->WP)(w:World):Prop:=CallF Tryz.prog 148 [.int .i64 (endKey1.n:Int)] [ti64] (fun(r3:Int) w=>CallF Tryz.prog 152 [suffixValues2.v] [ti64] (fun(r4:Int) w=>K (i64.wrap ((i64.wrap (r3+(endKey1.n:Int)))+r4)) w) w) w
theorem call123 {endKey1 suffixValues2 K w}(h:F123 endKey1 suffixValues2 K w):CallF Tryz.prog 123 [endKey1.v,suffixValues2.v] [ti64] K w:=ctr Tryz.func123 A123 (by kernel_rfl) (by kernel_rfl) h
def A124 :=au Tryz.f124 [] []
def F124 (b1:Option Addr)(startLen2:Int)(internalValueLen3:Int)(K:(Option Addr)->WP)(w:World):Prop:=CallF Tryz.prog 143 [.pointer b1,.int .i64 startLen2,.int .i64 internalValueLen3,.int .u8 21] [] (fun r4 w=>CallF Tryz.prog 147 [.pointer b1] [] (fun r5 w=> ∃p6,b1=some p6/\K (some ((p6.add 0).add 9)) w) w) w
theorem call124 {b1 startLen2 internalValueLen3 K w}(h:F124 b1 startLen2 internalValueLen3 K w):CallF Tryz.prog 124 [.pointer b1,.int .i64 startLen2,.int .i64 internalValueLen3] [tP] K w:=ctr Tryz.func124 A124 (by kernel_rfl) (by kernel_rfl) h
def A125 :=au Tryz.f125 [] []
def F125 (dst1:Sl)(endKey2:Sl)(suffixValues3:Sl)(K:Int->WP)(w:World):Prop:=CallF Tryz.prog 150 [dst1.v,.int .u64 (u64.wrap (endKey2.n:Int))] [ti64] (fun(r4:Int) w=>(0<=r4/\r4<=(dst1.n:Int))/\CopyP si87 ⟨(sub dst1.a 1 r4.toNat dst1.n dst1.c).a,(dst1.n-r4.toNat),(dst1.c-r4.toNat)⟩ endKey2 (fun(c5:Int) w=>(0<=(i64.wrap (r4+c5))/\(i64.wrap (r4+c5))<=(dst1.n:Int))/\CallF Tryz.prog 153 [.slice ((sub dst1.a 1 ((i64.wrap (r4+c5)).toNat) dst1.n dst1.c).a) (dst1.n-(i64.wrap (r4+c5)).toNat) (dst1.c-(i64.wrap (r4+c5)).toNat),suffixValues3.v] [ti64] (fun(r6:Int) w=>K (i64.wrap ((i64.wrap (r4+c5))+r6)) w) w) w) w
theorem call125 {dst1 endKey2 suffixValues3 K w}(h:F125 dst1 endKey2 suffixValues3 K w):CallF Tryz.prog 125 [dst1.v,endKey2.v,suffixValues3.v] [ti64] K w:=ctr Tryz.func125 A125 (by kernel_rfl) (by kernel_rfl) h
def A126 :=au Tryz.f126 [(3,[])] [(19,[(9,ti64),(10,tu64)])]
def F126 (b1:Option Addr)(keyLen2:Int)(deletedValueSize3:Int)(K:(Option Addr)->WP)(w:World):Prop:=Tr.Join (fun(s4:Unit) w=>NewP [.int .u8 0,.int .u8 0,.int .u8 0,.int .u8 0,.int .u8 0,.int .u8 0,.int .u8 0,.int .u8 0,.int .u8 0,.int .u8 0] 337 (fun n6 w=>Tr.Loop (fun(a:(Int×Int)->WP) (s7:Int×Int) w=>(if(decide (s7.2>=(128:Int)))=true then(0<=s7.1/\s7.1<10)/\St (n6.add (s7.1.toNat*1)) (.int .u8 (u8.wrap (BitVec.ofInt IntKind.u8.bits (u8.wrap s7.2)|||BitVec.ofInt IntKind.u8.bits (128:Int)).toNat)) (fun w=>0<=(7:Int)/\a ((i64.wrap (s7.1+1)),((s7.2).fdiv (2^(min 7 IntKind.u64.bits)))) w) w else(0<=s7.1/\s7.1<10)/\St (n6.add (s7.1.toNat*1)) (.int .u8 (u8.wrap s7.2)) (fun w=>CallF Tryz.prog 143 [.pointer b1,.int .i64 keyLen2,.int .i64 (i64.wrap (s7.1+1)),.int .u8 23] [] (fun r9 w=> ∃a0,b1=some a0/\Ld tP ((a0.add 0).add 13) (fun a1 w=> ∃a2,b1=some a2/\St (((a2.add 0).add 9).add 0) (.pointer a1) (fun w=> ∃a3,b1=some a3/\Ld tS (((a3.add 0).add 9).add 2) (fun a4 w=>(0<=(i64.wrap (s7.1+1))/\(i64.wrap (s7.1+1))<=(10:Int))/\CopyP si87 a4 ⟨(some n6),(i64.wrap (s7.1+1)).toNat,10⟩ (fun(a5:Int) w=> ∃a6,b1=some a6/\K (some ((a6.add 0).add 9)) w) w) w.drew) w) w) w) w)) ((0:Int),(u64.wrap ((u64.wrap deletedValueSize3)+(u64.wrap keyLen2)))) w) w) (fun a7=> ∃a8,b1=some a8/\Ld tu64 ((a8.add 0).add 21) (fun(a9:Int) w=>(if(decide (a9<15))=true then∃aa,b1=some aa/\St ((aa.add 0).add 21) (.int .u64 15) (fun w=>a7 () w) w else a7 () w)) w)
theorem call126 {b1 keyLen2 deletedValueSize3 K w}(h:F126 b1 keyLen2 deletedValueSize3 K w):CallF Tryz.prog 126 [.pointer b1,.int .i64 keyLen2,.int .u32 deletedValueSize3] [tP] K w:=ctr Tryz.func126 A126 (by kernel_rfl) (by kernel_rfl) h
def A127 :=au Tryz.f127 [(14,[])] [(4,[(4,ti64)]),(24,[(5,ti64)])]
def F127 (b1:Option Addr)(size2:Int)(K:Unit->WP)(w:World):Prop:=Tr.Loop (fun(a0:Int->WP) (s3:Int) w=>(if(decide (s3<size2))=true then a0 (i64.wrap (s3*(2:Int))) w else Tr.Join (fun(s5:Unit) w=> ∃p7,b1=some p7/\Ld tS ((p7.add 0).add 0) (fun a1 w=>(0<=(12:Int)/\(12:Int)<=(a1.c:Int))/\ ∃p9,b1=some p9/\St ((p9.add 0).add 0) (.slice a1.a 12 a1.c) (fun w=>Tr.Loop (fun(a2:Int->WP) (s10:Int) w=> ∃a3,b1=some a3/\Ld tS ((a3.add 0).add 0) (fun a4 w=>(if(decide (s10<(a4.n:Int)))=true then∃a5,b1=some a5/\Ld tS ((a5.add 0).add 0) (fun a6 w=>(0<=s10/\s10<(a6.n:Int))/\(∃a7,a6.a=some a7/\St (a7.add (s10.toNat*1)) (.int .u8 0) (fun w=>a2 (i64.wrap (s10+1)) w) w)) w else K () w)) w) (0:Int) w) w) w) (fun a8=> ∃a9,b1=some a9/\Ld tS ((a9.add 0).add 0) (fun aa w=>(if(decide ((aa.c:Int)<s3))=true then MakeP si87 (12:Int) s3 (fun ab w=> ∃ac,b1=some ac/\St ((ac.add 0).add 0) (ab.v) (fun w=>a8 () w) w) w else a8 () w)) w))) (1024:Int) w
theorem call127 {b1 size2 K w}(h:F127 b1 size2 K w):CallF Tryz.prog 127 [.pointer b1,.int .i64 size2] [] K w:=ctr Tryz.func127 A127 (by kernel_rfl) (by kernel_rfl) h
def A128 :=au Tryz.f128 [] []
def F128 (b1:Option Addr)(K:Sl->WP)(w:World):Prop:= ∃p2,b1=some p2/\Ld tS ((p2.add 0).add 0) (fun a0 w=>(0<=(8:Int)/\(8:Int)<=(a0.c:Int))/\K ⟨a0.a,8,a0.c⟩ w) w
theorem call128 {b1 K w}(h:F128 b1 K w):CallF Tryz.prog 128 [.pointer b1] [tS] K w:=ctr Tryz.func128 A128 (by kernel_rfl) (by kernel_rfl) h
def A130 :=au Tryz.f130 [(7,[(5,tu32),(6,ti64)])] []
def F130 (data1:Sl)(K:(Sl×Sl×Bool)->WP)(w:World):Prop:=Tr.Join (fun(s2:Int×Int) w=>(0<=s2.2/\s2.2<=(data1.n:Int))/\(if(decide (s2.1>(u32.wrap (((data1.n-s2.2.toNat):Nat):Int))))=true then K (⟨none,0,0⟩,⟨none,0,0⟩,false) w else(0<=s2.1/\s2.1<=(((data1.n-s2.2.toNat):Nat):Int))/\(0<=s2.1/\s2.1<=(((data1.c-s2.2.toNat):Nat):Int))/\K (⟨(sub ((sub data1.a 1 s2.2.toNat data1.n data1.c).a) 1 s2.1.toNat (data1.n-s2.2.toNat) (data1.c-s2.2.toNat)).a,((data1.n-s2.2.toNat)-s2.1.toNat),((data1.c-s2.2.toNat)-s2.1.toNat)⟩,⟨(sub data1.a 1 s2.2.toNat data1.n data1.c).a,s2.1.toNat,(data1.c-s2.2.toNat)⟩,true) w.drew)) (fun a0=>(0<=(0:Int)/\(0:Int)<(data1.n:Int))/\(∃e4,data1.a=some e4/\Ld tu8 (e4.add (0*1)) (fun(x5:Int) w=>(if(decide (x5<128))=true then a0 ((u32.wrap x5),(1:Int)) w else(0<=(1:Int)/\(1:Int)<(data1.n:Int))/\(∃e6,data1.a=some e6/\Ld tu8 (e6.add (1*1)) (fun(x7:Int) w=>(if(decide (x7<128))=true then 0<=(7:Int)/\a0 ((u32.wrap (BitVec.ofInt IntKind.u32.bits (u32.wrap ((u32.wrap x7)*2^(min 7 IntKind.u32.bits)))|||BitVec.ofInt IntKind.u32.bits (u32.wrap (u8.wrap (BitVec.ofInt IntKind.u8.bits x5&&&BitVec.ofInt IntKind.u8.bits (127:Int)).toNat))).toNat),(2:Int)) w else(0<=(2:Int)/\(2:Int)<(data1.n:Int))/\(∃e8,data1.a=some e8/\Ld tu8 (e8.add (2*1)) (fun(x9:Int) w=>(if(decide (x9<128))=true then 0<=(14:Int)/\0<=(7:Int)/\a0 ((u32.wrap (BitVec.ofInt IntKind.u32.bits (u32.wrap (BitVec.ofInt IntKind.u32.bits (u32.wrap ((u32.wrap x9)*2^(min 14 IntKind.u32.bits)))|||BitVec.ofInt IntKind.u32.bits (u32.wrap ((u32.wrap (u8.wrap (BitVec.ofInt IntKind.u8.bits x7&&&BitVec.ofInt IntKind.u8.bits (127:Int)).toNat))*2^(min 7 IntKind.u32.bits)))).toNat)|||BitVec.ofInt IntKind.u32.bits (u32.wrap (u8.wrap (BitVec.ofInt IntKind.u8.bits x5&&&BitVec.ofInt IntKind.u8.bits (127:Int)).toNat))).toNat),(3:Int)) w else(0<=(3:Int)/\(3:Int)<(data1.n:Int))/\(∃a1,data1.a=some a1/\Ld tu8 (a1.add (3*1)) (fun(a2:Int) w=>(if(decide (a2<128))=true then 0<=(21:Int)/\0<=(14:Int)/\0<=(7:Int)/\a0 ((u32.wrap (BitVec.ofInt IntKind.u32.bits (u32.wrap (BitVec.ofInt IntKind.u32.bits (u32.wrap (BitVec.ofInt IntKind.u32.bits (u32.wrap ((u32.wrap a2)*2^(min 21 IntKind.u32.bits)))|||BitVec.ofInt IntKind.u32.bits (u32.wrap ((u32.wrap (u8.wrap (BitVec.ofInt IntKind.u8.bits x9&&&BitVec.ofInt IntKind.u8.bits (127:Int)).toNat))*2^(min 14 IntKind.u32.bits)))).toNat)|||BitVec.ofInt IntKind.u32.bits (u32.wrap ((u32.wrap (u8.wrap (BitVec.ofInt IntKind.u8.bits x7&&&BitVec.ofInt IntKind.u8.bits (127:Int)).toNat))*2^(min 7 IntKind.u32.bits)))).toNat)|||BitVec.ofInt IntKind.u32.bits (u32.wrap (u8.wrap (BitVec.ofInt IntKind.u8.bits x5&&&BitVec.ofInt IntKind.u8.bits (127:Int)).toNat))).toNat),(4:Int)) w else(0<=(4:Int)/\(4:Int)<(data1.n:Int))/\(∃a3,data1.a=some a3/\Ld tu8 (a3.add (4*1)) (fun(a4:Int) w=>0<=(28:Int)/\0<=(21:Int)/\0<=(14:Int)/\0<=(7:Int)/\a0 ((u32.wrap (BitVec.ofInt IntKind.u32.bits (u32.wrap (BitVec.ofInt IntKind.u32.bits (u32.wrap (BitVec.ofInt IntKind.u32.bits (u32.wrap (BitVec.ofInt IntKind.u32.bits (u32.wrap ((u32.wrap a4)*2^(min 28 IntKind.u32.bits)))|||BitVec.ofInt IntKind.u32.bits (u32.wrap ((u32.wrap (u8.wrap (BitVec.ofInt IntKind.u8.bits a2&&&BitVec.ofInt IntKind.u8.bits (127:Int)).toNat))*2^(min 21 IntKind.u32.bits)))).toNat)|||BitVec.ofInt IntKind.u32.bits (u32.wrap ((u32.wrap (u8.wrap (BitVec.ofInt IntKind.u8.bits x9&&&BitVec.ofInt IntKind.u8.bits (127:Int)).toNat))*2^(min 14 IntKind.u32.bits)))).toNat)|||BitVec.ofInt IntKind.u32.bits (u32.wrap ((u32.wrap (u8.wrap (BitVec.ofInt IntKind.u8.bits x7&&&BitVec.ofInt IntKind.u8.bits (127:Int)).toNat))*2^(min 7 IntKind.u32.bits)))).toNat)|||BitVec.ofInt IntKind.u32.bits (u32.wrap (u8.wrap (BitVec.ofInt IntKind.u8.bits x5&&&BitVec.ofInt IntKind.u8.bits (127:Int)).toNat))).toNat),(5:Int)) w) w.drew))) w.drew))) w.drew))) w.drew))) w))
theorem call130 {data1 K w}(h:F130 data1 K w):CallF Tryz.prog 130 [data1.v] [tS,tS,tB] K w:=ctr Tryz.func130 A130 (by kernel_rfl) (by kernel_rfl) h
def A131 :=au Tryz.f131 [] []
def F131 (x1:Int)(K:Int->WP)(w:World):Prop:=CallF Tryz.prog 156 [.int .u64 x1] [ti64] (fun(r2:Int) w=>K r2 w) w
theorem call131 {x1 K w}(h:F131 x1 K w):CallF Tryz.prog 131 [.int .u64 x1] [ti64] K w:=ctr Tryz.func131 A131 (by kernel_rfl) (by kernel_rfl) h
def A132 :=au Tryz.f132 [(26,[(3,ti64)]),(36,[(11,ti64),(12,ti64)]),(46,[]),(56,[(1,ti64)])] [(5,[(1,ti64),(2,ti64),(3,ti64),(8,tB),(9,tB)])]
def F132 (data1:IV)(a2:Int)(b3:Int)(limit4:Int)(K:Unit->WP)(w:World):Prop:=Tr.Loop (fun(a:(Int×Int×Int×Bool×Bool)->WP) (s5:Int×Int×Int×Bool×Bool) w=>(if(decide ((i64.wrap (s5.2.1-s5.1))<=(12:Int)))=true then CallF Tryz.prog 157 [(IV.enc data1),.int .i64 s5.1,.int .i64 s5.2.1] [] (fun r7 w=>K () w) w else(if(s5.2.2.1==0)=true then CallF Tryz.prog 158 [(IV.enc data1),.int .i64 s5.1,.int .i64 s5.2.1] [] (fun r8 w=>K () w) w else Tr.Join (fun(s9:Int) w=>CallF Tryz.prog 160 [(IV.enc data1),.int .i64 s5.1,.int .i64 s5.2.1] [ti64,ti64] (fun(a0:Int×Int) w=>Tr.Join (fun(a1:Int×Int) w=>Tr.Join (fun(a3:Unit) w=>Tr.Join (fun(a4:Int) w=>CallF Tryz.prog 164 [(IV.enc data1),.int .i64 a4,.int .i64 s5.2.1,.int .i64 a1.1] [ti64,tB] (fun(a5:Int×Bool) w=>(8:Int)≠0/\(if(decide ((i64.wrap (a5.1-a4))<(i64.wrap (s5.2.1-a5.1))))=true then CallF Tryz.prog 132 [(IV.enc data1),.int .i64 a4,.int .i64 a5.1,.int .i64 s9] [] (fun a6 w=>a ((i64.wrap (a5.1+1)),s5.2.1,s9,(decide ((i64.wrap (a5.1-a4))>=(i64.wrap (((i64.wrap (s5.2.1-s5.1))).tdiv (8:Int))))),a5.2) w) w else CallF Tryz.prog 132 [(IV.enc data1),.int .i64 (i64.wrap (a5.1+1)),.int .i64 s5.2.1,.int .i64 s9] [] (fun a7 w=>a (a4,a5.1,s9,(decide ((i64.wrap (s5.2.1-a5.1))>=(i64.wrap (((i64.wrap (s5.2.1-s5.1))).tdiv (8:Int))))),a5.2) w) w)) w) (fun a8=>(if(decide (s5.1>0))=true then CallI Tryz.prog (IV.enc data1) "Less" [.int .i64 (i64.wrap (s5.1-1)),.int .i64 a1.1] [tB] (fun(a9:Bool) w=>(if(!a9)=true then CallF Tryz.prog 163 [(IV.enc data1),.int .i64 s5.1,.int .i64 s5.2.1,.int .i64 a1.1] [ti64] (fun(aa:Int) w=>a (aa,s5.2.1,s9,s5.2.2.2.1,s5.2.2.2.2) w) w else a8 s5.1 w)) w else a8 s5.1 w))) (fun ab=>(if s5.2.2.2.1=true then(if s5.2.2.2.2=true then(if(a1.2==1)=true then CallF Tryz.prog 162 [(IV.enc data1),.int .i64 s5.1,.int .i64 s5.2.1] [tB] (fun(ac:Bool) w=>(if ac=true then K () w else ab () w)) w else ab () w)else ab () w)else ab () w))) (fun ad=>(if(a0.2==2)=true then CallF Tryz.prog 161 [(IV.enc data1),.int .i64 s5.1,.int .i64 s5.2.1] [] (fun ae w=>ad ((i64.wrap ((i64.wrap (s5.2.1-1))-(i64.wrap (a0.1-s5.1)))),(1:Int)) w) w else ad (a0.1,a0.2) w))) w) (fun af=>(if(!s5.2.2.2.1)=true then CallF Tryz.prog 159 [(IV.enc data1),.int .i64 s5.1,.int .i64 s5.2.1] [] (fun ag w=>af (i64.wrap (s5.2.2.1-1)) w) w else af s5.2.2.1 w))))) (a2,b3,limit4,true,true) w
theorem call132 {data1 a2 b3 limit4 K w}(h:F132 data1 a2 b3 limit4 K w):CallF Tryz.prog 132 [(IV.enc data1),.int .i64 a2,.int .i64 b3,.int .i64 limit4] [] K w:=ctr Tryz.func132 A132 (by kernel_rfl) (by kernel_rfl) h
def A133 :=au Tryz.f133 [] []
def F133 (ik1:Sl×Int)(v2:Sl)(keysDst3:Sl)(K:(Sl×Sl×Sl×Int)->WP)(w:World):Prop:=NewP [ik1.1.v,.int .u64 ik1.2] 97 (fun n4 w=>NewP [.slice none 0 0,.slice none 0 0,.slice none 0 0,.int .i8 0] 113 (fun n5 w=>Ld tS (n4.add 0) (fun a0 w=>Ld tu64 (n4.add 1) (fun(a1:Int) w=>NewS [.int .u64 a1,.slice none 0 0,.slice none 0 0] 267 1 (fun l8 w=>LdAt tS (n4.add 0) a0 w/\AppP si109 keysDst3 l8 (fun a9 w=>LdAt tS (n4.add 0) a0 w/\StL n5 [a0.v,v2.v,a9.v,.int .i8 0] (fun w=>Ld (.agg [.sl,.sl,.sl,.int .i8]) n5 (fun(a2:Sl×Sl×Sl×Int) w=>K (a2.1,a2.2.1,a2.2.2.1,a2.2.2.2) w) w) w) w) w) w) w.drew) w) w
theorem call133 {ik1 v2 keysDst3 K w}(h:F133 ik1 v2 keysDst3 K w):CallF Tryz.prog 133 [.agg #[ik1.1.v,.int .u64 ik1.2],v2.v,keysDst3.v] [(.agg [.sl,.sl,.sl,.int .i8])] K w:=ctr Tryz.func133 A133 (by kernel_rfl) (by kernel_rfl) h
def A134 :=au Tryz.f134 [] []
def F134 (s1:Option Addr)(K:Bool->WP)(w:World):Prop:=(if((s1).isNone)=false then LdF s1 2 tS (fun a w=>K ((a.n:Int)==0) w) w else K true w)
theorem call134 {s1 K w}(h:F134 s1 K w):CallF Tryz.prog 134 [.pointer s1] [tB] K w:=ctr Tryz.func134 A134 (by kernel_rfl) (by kernel_rfl) h
def A135 :=au Tryz.f135 [] []
def F135 (k1:Int×Sl×Sl)(K:Int->WP)(w:World):Prop:=NewP [.int .u64 k1.1,k1.2.1.v,k1.2.2.v] 267 (fun n2 w=>Ld tu64 (n2.add 0) (fun(a0:Int) w=>0<=(8:Int)/\K ((a0).fdiv (2^(min 8 IntKind.u64.bits))) w) w) w
theorem call135 {k1 K w}(h:F135 k1 K w):CallF Tryz.prog 135 [.agg #[.int .u64 k1.1,k1.2.1.v,k1.2.2.v]] [tu64] K w:=ctr Tryz.func135 A135 (by kernel_rfl) (by kernel_rfl) h
def A136 :=au Tryz.f136 [(3,[]),(11,[]),(29,[]),(37,[])] []
def F136 (e1:Option Addr)(s2:Option Addr)(seqNum3:Int)(del4:Bool)(K:IV->WP)(w:World):Prop:=Tr.Join (fun(s5:Unit) w=>Tr.Join (fun(s7:Unit) w=>(if del4=true then LdF s2 0 tS (fun a0 w=>CallF Tryz.prog 165 [a0.v,.int .u64 seqNum3,.int .u8 19] [(.agg [.sl,.int .u64])] (fun(a1:Sl×Int) w=>NewP [.slice none 0 0,.int .u64 0] 97 (fun a2 w=>StL a2 [a1.1.v,.int .u64 a1.2] (fun w=>LdF e1 0 tF (fun a3 w=>Ld (.agg [.sl,.int .u64]) a2 (fun(a4:Sl×Int) w=>LdF s2 1 tS (fun a5 w=>CallV Tryz.prog (FV.enc a3) [.agg #[a4.1.v,.int .u64 a4.2],a5.v] [tI] (fun a6 w=>IsI (IV.enc a6)/\(if(!(isNilI (IV.enc a6)))=true then decI (IV.enc a6) (fun a7=>K a7 w)else decI .nilIface (fun a8=>K a8 w))) w) w) w) w.drew) w) w) w) w else decI .nilIface (fun a9=>K a9 w))) (fun aa=>LdF e1 2 tS (fun ab w=>(if(decide ((ab.n:Int)>0))=true then LdF s2 0 tS (fun ac w=>CallF Tryz.prog 165 [ac.v,.int .u64 seqNum3,.int .u8 20] [(.agg [.sl,.int .u64])] (fun(ad:Sl×Int) w=>NewP [.slice none 0 0,.int .u64 0] 97 (fun ae w=>StL ae [ad.1.v,.int .u64 ad.2] (fun w=>LdF s2 1 tS (fun af w=>LdF e1 2 tS (fun ag w=>CallF Tryz.prog 120 [af.v,ag.v] [ti64] (fun(ah:Int) w=>Tr.Join (fun(ai:Unit) w=>LdF e1 1 tS (fun aj w=>(0<=ah/\ah<=(aj.c:Int))/\LdF s2 1 tS (fun ak w=>LdF e1 2 tS (fun al w=>CallF Tryz.prog 122 [.slice aj.a ah.toNat aj.c,ak.v,al.v] [ti64] (fun(am:Int) w=>LdF e1 0 tF (fun an w=>Ld (.agg [.sl,.int .u64]) ae (fun(ao:Sl×Int) w=>LdF e1 1 tS (fun ap w=>(0<=ah/\ah<=(ap.c:Int))/\CallV Tryz.prog (FV.enc an) [.agg #[ao.1.v,.int .u64 ao.2],.slice ap.a ah.toNat ap.c] [tI] (fun aq w=>IsI (IV.enc aq)/\(if(!(isNilI (IV.enc aq)))=true then decI (IV.enc aq) (fun ar=>K ar w)else aa () w)) w) w) w) w.drew) w) w) w) w.drew) (fun au=>LdF e1 1 tS (fun av w=>(if(decide (ah>(av.c:Int)))=true then MakeP si87 ah ah (fun ax w=>StF e1 1 (ax.v) (fun w=>au () w) w) w else au () w)) w)) w) w) w.drew) w) w) w) w else aa () w)) w)) (fun ay=>LdF e1 3 tS (fun az w=>(if(decide ((az.n:Int)>0))=true then LdF s2 0 tS (fun b w=>CallF Tryz.prog 165 [b.v,.int .u64 seqNum3,.int .u8 21] [(.agg [.sl,.int .u64])] (fun(b0:Sl×Int) w=>NewP [.slice none 0 0,.int .u64 0] 97 (fun b1 w=>StL b1 [b0.1.v,.int .u64 b0.2] (fun w=>LdF s2 1 tS (fun b2 w=>LdF e1 3 tS (fun b3 w=>CallF Tryz.prog 123 [b2.v,b3.v] [ti64] (fun(b4:Int) w=>Tr.Join (fun(b5:Unit) w=>LdF e1 1 tS (fun b6 w=>(0<=b4/\b4<=(b6.c:Int))/\LdF s2 1 tS (fun b7 w=>LdF e1 3 tS (fun b8 w=>CallF Tryz.prog 125 [.slice b6.a b4.toNat b6.c,b7.v,b8.v] [ti64] (fun(b9:Int) w=>LdF e1 0 tF (fun ba w=>Ld (.agg [.sl,.int .u64]) b1 (fun(bb:Sl×Int) w=>LdF e1 1 tS (fun bc w=>(0<=b4/\b4<=(bc.c:Int))/\CallV Tryz.prog (FV.enc ba) [.agg #[bb.1.v,.int .u64 bb.2],.slice bc.a b4.toNat bc.c] [tI] (fun bd w=>IsI (IV.enc bd)/\(if(!(isNilI (IV.enc bd)))=true then decI (IV.enc bd) (fun be=>K be w)else ay () w)) w) w) w) w.drew) w) w) w) w.drew) (fun bf=>LdF e1 1 tS (fun bg w=>(if(decide (b4>(bg.c:Int)))=true then MakeP si87 b4 b4 (fun bh w=>StF e1 1 (bh.v) (fun w=>bf () w) w) w else bf () w)) w)) w) w) w.drew) w) w) w) w else ay () w)) w)
theorem call136 {e1 s2 seqNum3 del4 K w}(h:F136 e1 s2 seqNum3 del4 K w):CallF Tryz.prog 136 [.pointer e1,.pointer s2,.int .u64 seqNum3,.bool del4] [tI] K w:=ctr Tryz.func136 A136 (by kernel_rfl) (by kernel_rfl) h
def A137 :=au Tryz.f137 [] []
def F137 (k1:Int×Sl×Sl)(K:Int->WP)(w:World):Prop:=NewP [.int .u64 k1.1,k1.2.1.v,k1.2.2.v] 267 (fun n2 w=>Ld tu64 (n2.add 0) (fun(a0:Int) w=>K (u8.wrap (u64.wrap (BitVec.ofInt IntKind.u64.bits a0&&&BitVec.ofInt IntKind.u64.bits (255:Int)).toNat)) w) w) w
theorem call137 {k1 K w}(h:F137 k1 K w):CallF Tryz.prog 137 [.agg #[.int .u64 k1.1,k1.2.1.v,k1.2.2.v]] [tu8] K w:=ctr Tryz.func137 A137 (by kernel_rfl) (by kernel_rfl) h
def A138 :=au Tryz.f138 [] [(10,[(4,tu64),(5,tu64),(10,ti64)])]
def F138 (buf1:Sl)(K:(Int×Int)->WP)(w:World):Prop:=Tr.Loop (fun(a0:(Int×Int×Int)->WP) (s2:Int×Int×Int) w=>(if(decide (s2.2.2<(buf1.n:Int)))=true then(0<=s2.2.2/\s2.2.2<(buf1.n:Int))/\(∃e4,buf1.a=some e4/\Ld tu8 (e4.add (s2.2.2.toNat*1)) (fun(x5:Int) w=>(if(s2.2.2==10)=true then K ((0:Int),(i64.wrap (0-(i64.wrap (s2.2.2+1))))) w else(if(decide (x5<128))=true then(if(s2.2.2==9)=true then(if(decide (x5>1))=true then K ((0:Int),(i64.wrap (0-(i64.wrap (s2.2.2+1))))) w else 0<=s2.2.1/\K ((u64.wrap (BitVec.ofInt IntKind.u64.bits s2.1|||BitVec.ofInt IntKind.u64.bits (u64.wrap ((u64.wrap x5)*2^(min s2.2.1.toNat IntKind.u64.bits)))).toNat),(i64.wrap (s2.2.2+1))) w)else 0<=s2.2.1/\K ((u64.wrap (BitVec.ofInt IntKind.u64.bits s2.1|||BitVec.ofInt IntKind.u64.bits (u64.wrap ((u64.wrap x5)*2^(min s2.2.1.toNat IntKind.u64.bits)))).toNat),(i64.wrap (s2.2.2+1))) w)else 0<=s2.2.1/\a0 ((u64.wrap (BitVec.ofInt IntKind.u64.bits s2.1|||BitVec.ofInt IntKind.u64.bits (u64.wrap ((u64.wrap (u8.wrap (BitVec.ofInt IntKind.u8.bits x5&&&BitVec.ofInt IntKind.u8.bits (127:Int)).toNat))*2^(min s2.2.1.toNat IntKind.u64.bits)))).toNat),(u64.wrap (s2.2.1+7)),(i64.wrap (s2.2.2+1))) w))) w)else K ((0:Int),(0:Int)) w)) ((0:Int),(0:Int),(0:Int)) w
theorem call138 {buf1 K w}(h:F138 buf1 K w):CallF Tryz.prog 138 [buf1.v] [tu64,ti64] K w:=ctr Tryz.func138 A138 (by kernel_rfl) (by kernel_rfl) h
def A139 :=au Tryz.f139 [] []
def F139 (trailer1:Int)(K:Int->WP)(w:World):Prop:=K (u8.wrap (u64.wrap (BitVec.ofInt IntKind.u64.bits trailer1&&&BitVec.ofInt IntKind.u64.bits (255:Int)).toNat)) w
theorem call139 {trailer1 K w}(h:F139 trailer1 K w):CallF Tryz.prog 139 [.int .u64 trailer1] [tu8] K w:=ctr Tryz.func139 A139 (by kernel_rfl) (by kernel_rfl) h
def A142 :=au Tryz.f142 [] []
def F142 (data1:Sl)(K:(Sl×Sl×Bool)->WP)(w:World):Prop:=CallF Tryz.prog 138 [data1.v] [tu64,ti64] (fun(r2:Int×Int) w=>(if(decide (r2.2<=(0:Int)))=true then K (⟨none,0,0⟩,⟨none,0,0⟩,false) w else(0<=r2.2/\r2.2<=(i64.wrap (r2.2+(i64.wrap r2.1)))/\(i64.wrap (r2.2+(i64.wrap r2.1)))<=(data1.c:Int))/\(0<=(i64.wrap (r2.2+(i64.wrap r2.1)))/\(i64.wrap (r2.2+(i64.wrap r2.1)))<=(data1.n:Int))/\K (⟨(sub data1.a 1 r2.2.toNat ((i64.wrap (r2.2+(i64.wrap r2.1))).toNat) data1.c).a,((i64.wrap (r2.2+(i64.wrap r2.1))).toNat-r2.2.toNat),(data1.c-r2.2.toNat)⟩,⟨(sub data1.a 1 ((i64.wrap (r2.2+(i64.wrap r2.1))).toNat) data1.n data1.c).a,(data1.n-(i64.wrap (r2.2+(i64.wrap r2.1))).toNat),(data1.c-(i64.wrap (r2.2+(i64.wrap r2.1))).toNat)⟩,true) w.drew)) w
theorem call142 {data1 K w}(h:F142 data1 K w):CallF Tryz.prog 142 [data1.v] [tS,tS,tB] K w:=ctr Tryz.func142 A142 (by kernel_rfl) (by kernel_rfl) h
def A143 :=au Tryz.f143 [(1,[]),(7,[])] [(31,[(8,ti64),(9,tu32)]),(56,[(8,ti64),(10,tu32)])]
def F143 (b1:Option Addr)(keyLen2:Int)(valueLen3:Int)(kind4:Int)(K:Unit->WP)(w:World):Prop:=Tr.Join (fun(s5:Unit) w=>Tr.Join (fun(s7:Unit) w=> ∃p9,b1=some p9/\Ld tu64 ((p9.add 0).add 6) (fun(a0:Int) w=> ∃a1,b1=some a1/\St ((a1.add 0).add 6) (.int .u64 (u64.wrap (a0+1))) (fun w=> ∃a2,b1=some a2/\Ld tu64 ((a2.add 0).add 4) (fun(a3:Int) w=>CallF Tryz.prog 144 [.int .i64 keyLen2,.int .i64 valueLen3] [tu64] (fun(a4:Int) w=>LdAt tu64 ((a2.add 0).add 4) a3 w/\ ∃a5,b1=some a5/\St ((a5.add 0).add 4) (.int .u64 (u64.wrap (a3+a4))) (fun w=> ∃a6,b1=some a6/\Ld tS ((a6.add 0).add 0) (fun a7 w=> ∃a8,b1=some a8/\St (((a8.add 0).add 9).add 3) (.int .u32 (u32.wrap (a7.n:Int))) (fun w=>CallF Tryz.prog 145 [.pointer b1,.int .i64 (i64.wrap ((i64.wrap ((11:Int)+keyLen2))+valueLen3))] [] (fun a9 w=> ∃aa,b1=some aa/\Ld tS ((aa.add 0).add 0) (fun ab w=>(0<=(a7.n:Int)/\(a7.n:Int)<(ab.n:Int))/\(∃ac,ab.a=some ac/\St (ac.add (a7.n*1)) (.int .u8 kind4) (fun w=>Tr.Loop (fun(ad:(Int×Int)->WP) (s23:Int×Int) w=>(if(decide (s23.2>=(128:Int)))=true then∃ae,b1=some ae/\Ld tS ((ae.add 0).add 0) (fun af w=>(0<=s23.1/\s23.1<(af.n:Int))/\(∃ag,af.a=some ag/\St (ag.add (s23.1.toNat*1)) (.int .u8 (u8.wrap (BitVec.ofInt IntKind.u8.bits (u8.wrap s23.2)|||BitVec.ofInt IntKind.u8.bits (128:Int)).toNat)) (fun w=>0<=(7:Int)/\ad ((i64.wrap (s23.1+1)),((s23.2).fdiv (2^(min 7 IntKind.u32.bits)))) w) w)) w else∃ah,b1=some ah/\Ld tS ((ah.add 0).add 0) (fun ai w=>(0<=s23.1/\s23.1<(ai.n:Int))/\(∃aj,ai.a=some aj/\St (aj.add (s23.1.toNat*1)) (.int .u8 (u8.wrap s23.2)) (fun w=> ∃ak,b1=some ak/\Ld tS ((ak.add 0).add 0) (fun al w=>(0<=(i64.wrap (s23.1+1))/\(i64.wrap (s23.1+1))<=(i64.wrap ((i64.wrap (s23.1+1))+keyLen2))/\(i64.wrap ((i64.wrap (s23.1+1))+keyLen2))<=(al.c:Int))/\ ∃am,b1=some am/\St (((am.add 0).add 9).add 1) (.slice ((sub al.a 1 ((i64.wrap (s23.1+1)).toNat) ((i64.wrap ((i64.wrap (s23.1+1))+keyLen2)).toNat) al.c).a) ((i64.wrap ((i64.wrap (s23.1+1))+keyLen2)).toNat-(i64.wrap (s23.1+1)).toNat) (al.c-(i64.wrap (s23.1+1)).toNat)) (fun w=>Tr.Loop (fun(an:(Int×Int)->WP) (s34:Int×Int) w=>(if(decide (s34.2>=(128:Int)))=true then∃ao,b1=some ao/\Ld tS ((ao.add 0).add 0) (fun ap w=>(0<=s34.1/\s34.1<(ap.n:Int))/\(∃aq,ap.a=some aq/\St (aq.add (s34.1.toNat*1)) (.int .u8 (u8.wrap (BitVec.ofInt IntKind.u8.bits (u8.wrap s34.2)|||BitVec.ofInt IntKind.u8.bits (128:Int)).toNat)) (fun w=>0<=(7:Int)/\an ((i64.wrap (s34.1+1)),((s34.2).fdiv (2^(min 7 IntKind.u32.bits)))) w) w)) w else∃ar,b1=some ar/\Ld tS ((ar.add 0).add 0) (fun au w=>(0<=s34.1/\s34.1<(au.n:Int))/\(∃av,au.a=some av/\St (av.add (s34.1.toNat*1)) (.int .u8 (u8.wrap s34.2)) (fun w=> ∃ax,b1=some ax/\Ld tS ((ax.add 0).add 0) (fun ay w=>(0<=(i64.wrap (s34.1+1))/\(i64.wrap (s34.1+1))<=(i64.wrap ((i64.wrap (s34.1+1))+valueLen3))/\(i64.wrap ((i64.wrap (s34.1+1))+valueLen3))<=(ay.c:Int))/\ ∃az,b1=some az/\St (((az.add 0).add 9).add 2) (.slice ((sub ay.a 1 ((i64.wrap (s34.1+1)).toNat) ((i64.wrap ((i64.wrap (s34.1+1))+valueLen3)).toNat) ay.c).a) ((i64.wrap ((i64.wrap (s34.1+1))+valueLen3)).toNat-(i64.wrap (s34.1+1)).toNat) (ay.c-(i64.wrap (s34.1+1)).toNat)) (fun w=> ∃b,b1=some b/\Ld tS ((b.add 0).add 0) (fun b0 w=>(0<=(i64.wrap ((i64.wrap (s34.1+1))+valueLen3))/\(i64.wrap ((i64.wrap (s34.1+1))+valueLen3))<=(b0.c:Int))/\ ∃b2,b1=some b2/\St ((b2.add 0).add 0) (.slice b0.a ((i64.wrap ((i64.wrap (s34.1+1))+valueLen3)).toNat) b0.c) (fun w=>K () w) w) w) w) w) w)) w)) ((i64.wrap ((i64.wrap (s23.1+1))+keyLen2)),(u32.wrap valueLen3)) w) w) w) w)) w)) ((i64.wrap ((a7.n:Int)+1)),(u32.wrap keyLen2)) w) w)) w) w) w) w) w) w) w.drew) w) w) (fun b3=> ∃b4,b1=some b4/\Ld tS ((b4.add 0).add 0) (fun b5 w=>(if((b5.n:Int)==0)=true then CallF Tryz.prog 127 [.pointer b1,.int .i64 (i64.wrap ((i64.wrap ((i64.wrap (keyLen2+valueLen3))+20))+12))] [] (fun b6 w=>b3 () w) w else b3 () w)) w)) (fun b7=> ∃b8,b1=some b8/\Ld tB ((b8.add 0).add 24) (fun(b9:Bool) w=>(if b9=true then False else b7 () w)) w)
theorem call143 {b1 keyLen2 valueLen3 kind4 K w}(h:F143 b1 keyLen2 valueLen3 kind4 K w):CallF Tryz.prog 143 [.pointer b1,.int .i64 keyLen2,.int .i64 valueLen3,.int .u8 kind4] [] K w:=ctr Tryz.func143 A143 (by kernel_rfl) (by kernel_rfl) h
def A144 :=au Tryz.f144 [] []
def F144 (keyBytes1:Int)(valueBytes2:Int)(K:Int->WP)(w:World):Prop:=K (u64.wrap ((u64.wrap ((u64.wrap ((184:Int)+(u64.wrap (u32.wrap ((u32.wrap keyBytes1)+8)))))+(u64.wrap (u32.wrap valueBytes2))))+3)) w
theorem call144 {keyBytes1 valueBytes2 K w}(h:F144 keyBytes1 valueBytes2 K w):CallF Tryz.prog 144 [.int .i64 keyBytes1,.int .i64 valueBytes2] [tu64] K w:=ctr Tryz.func144 A144 (by kernel_rfl) (by kernel_rfl) h
def A145 :=au Tryz.f145 [(3,[]),(9,[])] [(16,[(5,ti64)])]
def F145 (b1:Option Addr)(n2:Int)(K:Unit->WP)(w:World):Prop:= ∃p3,b1=some p3/\Ld tS ((p3.add 0).add 0) (fun a0 w=>Tr.Join (fun(s5:Unit) w=>Tr.Join (fun(s7:Unit) w=> ∃p9,b1=some p9/\Ld tS ((p9.add 0).add 0) (fun a1 w=>(0<=(i64.wrap ((a0.n:Int)+n2))/\(i64.wrap ((a0.n:Int)+n2))<=(a1.c:Int))/\ ∃a2,b1=some a2/\St ((a2.add 0).add 0) (.slice a1.a ((i64.wrap ((a0.n:Int)+n2)).toNat) a1.c) (fun w=>K () w) w) w) (fun a3=> ∃a4,b1=some a4/\Ld tS ((a4.add 0).add 0) (fun a5 w=>(if(decide ((i64.wrap ((a0.n:Int)+n2))>(a5.c:Int)))=true then∃a6,b1=some a6/\Ld tS ((a6.add 0).add 0) (fun a7 w=>Tr.Loop (fun(a8:Int->WP) (s16:Int) w=>(if(decide (s16<(i64.wrap ((a0.n:Int)+n2))))=true then a8 (i64.wrap (s16*(2:Int))) w else∃a9,b1=some a9/\Ld tS ((a9.add 0).add 0) (fun aa w=>MakeP si87 (aa.n:Int) s16 (fun ab w=> ∃ac,b1=some ac/\Ld tS ((ac.add 0).add 0) (fun ad w=>CopyP si87 ab ad (fun(ae:Int) w=> ∃af,b1=some af/\St ((af.add 0).add 0) (ab.v) (fun w=>a3 () w) w) w) w) w) w)) (i64.wrap ((2:Int)*(a7.c:Int))) w) w else a3 () w)) w)) (fun ag=>(if(decide ((u64.wrap (i64.wrap ((a0.n:Int)+n2)))>=(4294967295:Int)))=true then Ld tI (⟨5,0,none⟩) (fun ah w=>False) w else ag () w))) w
theorem call145 {b1 n2 K w}(h:F145 b1 n2 K w):CallF Tryz.prog 145 [.pointer b1,.int .i64 n2] [] K w:=ctr Tryz.func145 A145 (by kernel_rfl) (by kernel_rfl) h
def A147 :=au Tryz.f147 [(3,[])] []
def F147 (b1:Option Addr)(K:Unit->WP)(w:World):Prop:= ∃p2,b1=some p2/\Ld tu64 ((p2.add 0).add 8) (fun(a:Int) w=> ∃p4,b1=some p4/\St ((p4.add 0).add 8) (.int .u64 (u64.wrap (a+1))) (fun w=>Tr.Join (fun(s5:Unit) w=> ∃p7,b1=some p7/\Ld tP ((p7.add 0).add 13) (fun a0 w=>(if(!(a0).isNone)=true then∃p9,b1=some p9/\St ((p9.add 0).add 18) (.slice none 0 0) (fun w=> ∃a1,b1=some a1/\St ((a1.add 0).add 19) (.int .u64 0) (fun w=> ∃a2,b1=some a2/\Ld tP ((a2.add 0).add 15) (fun a3 w=>(if((a3).isNone)=true then∃a4,b1=some a4/\ ∃a5,b1=some a5/\Ld tF ((a5.add 0).add 1) (fun a6 w=> ∃a7,b1=some a7/\Ld tF ((a7.add 0).add 3) (fun a8 w=>CallF Tryz.prog 146 [.pointer (some ((a4.add 0).add 0)),(FV.enc a6),(FV.enc a8)] [tP] (fun a9 w=> ∃aa,b1=some aa/\St ((aa.add 0).add 15) (.pointer a9) (fun w=> ∃ab,b1=some ab/\Ld tP ((ab.add 0).add 15) (fun ac w=> ∃ad,b1=some ad/\St (((ad.add 0).add 9).add 0) (.pointer ac) (fun w=>K () w) w) w) w) w) w) w.drew else∃ae,b1=some ae/\Ld tP ((ae.add 0).add 15) (fun af w=> ∃ag,b1=some ag/\St (((ag.add 0).add 9).add 0) (.pointer af) (fun w=>K () w) w) w)) w) w) w else K () w)) w) (fun ah=> ∃ai,b1=some ai/\Ld tu64 ((ai.add 0).add 21) (fun(aj:Int) w=>(if(decide (aj<8))=true then∃ak,b1=some ak/\St ((ak.add 0).add 21) (.int .u64 8) (fun w=>ah () w) w else ah () w)) w)) w) w
theorem call147 {b1 K w}(h:F147 b1 K w):CallF Tryz.prog 147 [.pointer b1] [] K w:=ctr Tryz.func147 A147 (by kernel_rfl) (by kernel_rfl) h
def A148 :=au Tryz.f148 [] [(8,[(2,ti64),(3,tu32)])]
def F148 (v1:Int)(K:Int->WP)(w:World):Prop:=Tr.Loop (fun(a:(Int×Int)->WP) (s2:Int×Int) w=>(if(decide (s2.2>=(128:Int)))=true then 0<=(7:Int)/\a ((i64.wrap (s2.1+1)),((s2.2).fdiv (2^(min 7 IntKind.u32.bits)))) w else K s2.1 w)) ((i64.wrap ((0:Int)+1)),(u32.wrap v1)) w
theorem call148 {v1 K w}(h:F148 v1 K w):CallF Tryz.prog 148 [.int .i64 v1] [ti64] K w:=ctr Tryz.func148 A148 (by kernel_rfl) (by kernel_rfl) h
def A149 :=au Tryz.f149 [] [(8,[(3,ti64),(4,ti64)])]
def F149 (suffixes1:Sl)(K:Int->WP)(w:World):Prop:=Tr.Loop (fun(a0:(Int×Int)->WP) (s2:Int×Int) w=>(if(decide (s2.2<(suffixes1.n:Int)))=true then(0<=s2.2/\s2.2<(suffixes1.n:Int))/\(∃e4,suffixes1.a=some e4/\Ld tS (e4.add (s2.2.toNat*1)) (fun x5 w=>CallF Tryz.prog 148 [.int .i64 (x5.n:Int)] [ti64] (fun(r6:Int) w=>(0<=s2.2/\s2.2<(suffixes1.n:Int))/\(∃e7,suffixes1.a=some e7/\Ld tS (e7.add (s2.2.toNat*1)) (fun x8 w=>a0 ((i64.wrap ((i64.wrap (s2.1+r6))+(x8.n:Int))),(i64.wrap (s2.2+1))) w) w)) w) w)else K s2.1 w)) ((0:Int),(0:Int)) w
theorem call149 {suffixes1 K w}(h:F149 suffixes1 K w):CallF Tryz.prog 149 [suffixes1.v] [ti64] K w:=ctr Tryz.func149 A149 (by kernel_rfl) (by kernel_rfl) h
def A150 :=au Tryz.f150 [] [(6,[(1,tu64),(5,ti64)])]
def F150 (buf1:Sl)(x2:Int)(K:Int->WP)(w:World):Prop:=Tr.Loop (fun(a0:(Int×Int)->WP) (s3:Int×Int) w=>(if(decide (s3.1>=(128:Int)))=true then(0<=s3.2/\s3.2<(buf1.n:Int))/\(∃e5,buf1.a=some e5/\St (e5.add (s3.2.toNat*1)) (.int .u8 (u8.wrap (BitVec.ofInt IntKind.u8.bits (u8.wrap s3.1)|||BitVec.ofInt IntKind.u8.bits (128:Int)).toNat)) (fun w=>0<=(7:Int)/\a0 (((s3.1).fdiv (2^(min 7 IntKind.u64.bits))),(i64.wrap (s3.2+1))) w) w)else(0<=s3.2/\s3.2<(buf1.n:Int))/\(∃e6,buf1.a=some e6/\St (e6.add (s3.2.toNat*1)) (.int .u8 (u8.wrap s3.1)) (fun w=>K (i64.wrap (s3.2+1)) w) w))) (x2,(0:Int)) w
theorem call150 {buf1 x2 K w}(h:F150 buf1 x2 K w):CallF Tryz.prog 150 [buf1.v,.int .u64 x2] [ti64] K w:=ctr Tryz.func150 A150 (by kernel_rfl) (by kernel_rfl) h
def A151 :=au Tryz.f151 [] [(8,[(5,ti64),(6,ti64)])]
def F151 (dst1:Sl)(suffixes2:Sl)(K:Int->WP)(w:World):Prop:=Tr.Loop (fun(a0:(Int×Int)->WP) (s3:Int×Int) w=>(if(decide (s3.2<(suffixes2.n:Int)))=true then(0<=s3.1/\s3.1<=(dst1.n:Int))/\(0<=s3.2/\s3.2<(suffixes2.n:Int))/\(∃e5,suffixes2.a=some e5/\Ld tS (e5.add (s3.2.toNat*1)) (fun x6 w=>CallF Tryz.prog 150 [.slice ((sub dst1.a 1 s3.1.toNat dst1.n dst1.c).a) (dst1.n-s3.1.toNat) (dst1.c-s3.1.toNat),.int .u64 (u64.wrap (x6.n:Int))] [ti64] (fun(r7:Int) w=>(0<=(i64.wrap (s3.1+r7))/\(i64.wrap (s3.1+r7))<=(dst1.n:Int))/\(0<=s3.2/\s3.2<(suffixes2.n:Int))/\(∃e8,suffixes2.a=some e8/\Ld tS (e8.add (s3.2.toNat*1)) (fun x9 w=>CopyP si87 ⟨(sub dst1.a 1 ((i64.wrap (s3.1+r7)).toNat) dst1.n dst1.c).a,(dst1.n-(i64.wrap (s3.1+r7)).toNat),(dst1.c-(i64.wrap (s3.1+r7)).toNat)⟩ x9 (fun(a1:Int) w=>a0 ((i64.wrap ((i64.wrap (s3.1+r7))+a1)),(i64.wrap (s3.2+1))) w) w) w.drew)) w) w.drew)else K s3.1 w)) ((0:Int),(0:Int)) w
theorem call151 {dst1 suffixes2 K w}(h:F151 dst1 suffixes2 K w):CallF Tryz.prog 151 [dst1.v,suffixes2.v] [ti64] K w:=ctr Tryz.func151 A151 (by kernel_rfl) (by kernel_rfl) h
def A152 :=au Tryz.f152 [] [(8,[(3,ti64),(4,ti64)])]
def F152 (suffixValues1:Sl)(K:Int->WP)(w:World):Prop:=Tr.Loop (fun(a0:(Int×Int)->WP) (s2:Int×Int) w=>(if(decide (s2.2<(suffixValues1.n:Int)))=true then(0<=s2.2/\s2.2<(suffixValues1.n:Int))/\(∃e4,suffixValues1.a=some e4/\Ld tS ((e4.add (s2.2.toNat*2)).add 0) (fun a1 w=>CallF Tryz.prog 148 [.int .i64 (a1.n:Int)] [ti64] (fun(r6:Int) w=>(0<=s2.2/\s2.2<(suffixValues1.n:Int))/\(∃e7,suffixValues1.a=some e7/\Ld tS ((e7.add (s2.2.toNat*2)).add 0) (fun a2 w=>(0<=s2.2/\s2.2<(suffixValues1.n:Int))/\(∃e9,suffixValues1.a=some e9/\Ld tS ((e9.add (s2.2.toNat*2)).add 1) (fun a3 w=>CallF Tryz.prog 148 [.int .i64 (a3.n:Int)] [ti64] (fun(a4:Int) w=>(0<=s2.2/\s2.2<(suffixValues1.n:Int))/\(∃a5,suffixValues1.a=some a5/\Ld tS ((a5.add (s2.2.toNat*2)).add 1) (fun a6 w=>a0 ((i64.wrap ((i64.wrap ((i64.wrap ((i64.wrap (s2.1+r6))+(a2.n:Int)))+a4))+(a6.n:Int))),(i64.wrap (s2.2+1))) w) w)) w) w)) w)) w) w)else K s2.1 w)) ((0:Int),(0:Int)) w
theorem call152 {suffixValues1 K w}(h:F152 suffixValues1 K w):CallF Tryz.prog 152 [suffixValues1.v] [ti64] K w:=ctr Tryz.func152 A152 (by kernel_rfl) (by kernel_rfl) h
def A153 :=au Tryz.f153 [] [(8,[(5,ti64),(6,ti64)])]
def F153 (dst1:Sl)(suffixValues2:Sl)(K:Int->WP)(w:World):Prop:=Tr.Loop (fun(a0:(Int×Int)->WP) (s3:Int×Int) w=>(if(decide (s3.2<(suffixValues2.n:Int)))=true then(0<=s3.1/\s3.1<=(dst1.n:Int))/\(0<=s3.2/\s3.2<(suffixValues2.n:Int))/\(∃e5,suffixValues2.a=some e5/\Ld tS ((e5.add (s3.2.toNat*2)).add 0) (fun a1 w=>CallF Tryz.prog 150 [.slice ((sub dst1.a 1 s3.1.toNat dst1.n dst1.c).a) (dst1.n-s3.1.toNat) (dst1.c-s3.1.toNat),.int .u64 (u64.wrap (a1.n:Int))] [ti64] (fun(r7:Int) w=>(0<=(i64.wrap (s3.1+r7))/\(i64.wrap (s3.1+r7))<=(dst1.n:Int))/\(0<=s3.2/\s3.2<(suffixValues2.n:Int))/\(∃e8,suffixValues2.a=some e8/\Ld tS ((e8.add (s3.2.toNat*2)).add 0) (fun a2 w=>CopyP si87 ⟨(sub dst1.a 1 ((i64.wrap (s3.1+r7)).toNat) dst1.n dst1.c).a,(dst1.n-(i64.wrap (s3.1+r7)).toNat),(dst1.c-(i64.wrap (s3.1+r7)).toNat)⟩ a2 (fun(a3:Int) w=>(0<=(i64.wrap ((i64.wrap (s3.1+r7))+a3))/\(i64.wrap ((i64.wrap (s3.1+r7))+a3))<=(dst1.n:Int))/\(0<=s3.2/\s3.2<(suffixValues2.n:Int))/\(∃a4,suffixValues2.a=some a4/\Ld tS ((a4.add (s3.2.toNat*2)).add 1) (fun a5 w=>CallF Tryz.prog 150 [.slice ((sub dst1.a 1 ((i64.wrap ((i64.wrap (s3.1+r7))+a3)).toNat) dst1.n dst1.c).a) (dst1.n-(i64.wrap ((i64.wrap (s3.1+r7))+a3)).toNat) (dst1.c-(i64.wrap ((i64.wrap (s3.1+r7))+a3)).toNat),.int .u64 (u64.wrap (a5.n:Int))] [ti64] (fun(a6:Int) w=>(0<=(i64.wrap ((i64.wrap ((i64.wrap (s3.1+r7))+a3))+a6))/\(i64.wrap ((i64.wrap ((i64.wrap (s3.1+r7))+a3))+a6))<=(dst1.n:Int))/\(0<=s3.2/\s3.2<(suffixValues2.n:Int))/\(∃a7,suffixValues2.a=some a7/\Ld tS ((a7.add (s3.2.toNat*2)).add 1) (fun a8 w=>CopyP si87 ⟨(sub dst1.a 1 ((i64.wrap ((i64.wrap ((i64.wrap (s3.1+r7))+a3))+a6)).toNat) dst1.n dst1.c).a,(dst1.n-(i64.wrap ((i64.wrap ((i64.wrap (s3.1+r7))+a3))+a6)).toNat),(dst1.c-(i64.wrap ((i64.wrap ((i64.wrap (s3.1+r7))+a3))+a6)).toNat)⟩ a8 (fun(a9:Int) w=>a0 ((i64.wrap ((i64.wrap ((i64.wrap ((i64.wrap (s3.1+r7))+a3))+a6))+a9)),(i64.wrap (s3.2+1))) w) w) w.drew)) w) w.drew)) w) w.drew)) w) w.drew)else K s3.1 w)) ((0:Int),(0:Int)) w
theorem call153 {dst1 suffixValues2 K w}(h:F153 dst1 suffixValues2 K w):CallF Tryz.prog 153 [dst1.v,suffixValues2.v] [ti64] K w:=ctr Tryz.func153 A153 (by kernel_rfl) (by kernel_rfl) h
def A157 :=au Tryz.f157 [] [(3,[(6,ti64)]),(15,[(7,ti64)])]
def F157 (data1:IV)(a2:Int)(b3:Int)(K:Unit->WP)(w:World):Prop:=Tr.Loop (fun(a:Int->WP) (s4:Int) w=>(if(decide (s4<b3))=true then Tr.Loop (fun(a0:Int->WP) (s6:Int) w=>(if(decide (s6>a2))=true then CallI Tryz.prog (IV.enc data1) "Less" [.int .i64 s6,.int .i64 (i64.wrap (s6-1))] [tB] (fun(r8:Bool) w=>(if r8=true then CallI Tryz.prog (IV.enc data1) "Swap" [.int .i64 s6,.int .i64 (i64.wrap (s6-1))] [] (fun r9 w=>a0 (i64.wrap (s6-1)) w) w else a (i64.wrap (s4+1)) w)) w else a (i64.wrap (s4+1)) w)) s4 w else K () w)) (i64.wrap (a2+1)) w
theorem call157 {data1 a2 b3 K w}(h:F157 data1 a2 b3 K w):CallF Tryz.prog 157 [(IV.enc data1),.int .i64 a2,.int .i64 b3] [] K w:=ctr Tryz.func157 A157 (by kernel_rfl) (by kernel_rfl) h
def A158 :=au Tryz.f158 [] [(10,[(9,ti64)]),(24,[(10,ti64)])]
def F158 (data1:IV)(a2:Int)(b3:Int)(K:Unit->WP)(w:World):Prop:=(2:Int)≠0/\Tr.Loop (fun(a:Int->WP) (s4:Int) w=>(if(decide (s4>=(0:Int)))=true then CallF Tryz.prog 166 [(IV.enc data1),.int .i64 s4,.int .i64 (i64.wrap (b3-a2)),.int .i64 a2] [] (fun r6 w=>a (i64.wrap (s4-1)) w) w else Tr.Loop (fun(a0:Int->WP) (s7:Int) w=>(if(decide (s7>=(0:Int)))=true then CallI Tryz.prog (IV.enc data1) "Swap" [.int .i64 a2,.int .i64 (i64.wrap (a2+s7))] [] (fun r9 w=>CallF Tryz.prog 166 [(IV.enc data1),.int .i64 0,.int .i64 s7,.int .i64 a2] [] (fun a1 w=>a0 (i64.wrap (s7-1)) w) w) w else K () w)) (i64.wrap ((i64.wrap (b3-a2))-1)) w)) (i64.wrap (((i64.wrap ((i64.wrap (b3-a2))-1))).tdiv (2:Int))) w
theorem call158 {data1 a2 b3 K w}(h:F158 data1 a2 b3 K w):CallF Tryz.prog 158 [(IV.enc data1),.int .i64 a2,.int .i64 b3] [] K w:=ctr Tryz.func158 A158 (by kernel_rfl) (by kernel_rfl) h
end
end Go.Proofs.YtpkoddfamelnhaaGreatDoor
namespace Go.Tr
variable {α : Type}
def swp (d:Nat->α)(i j:Nat):Nat->α:=upd (upd d i (d j)) j (d i)
theorem swp_r (d:Nat->α)(i j:Nat):swp d i j j=d i:=upd_same _ _ _
theorem swp_l (d:Nat->α)(i j:Nat):swp d i j i=d j:=by
 unfold swp
 by_cases e:i=j
 ·subst e;rw[upd_same]
 ·rw[upd_other e,upd_same]
theorem swp_o (d:Nat->α){i j m:Nat}(h1:m≠i)(h2:m≠j):swp d i j m=d m:=by unfold swp;rw[upd_other h2,upd_other h1]
def SameI (a b:Nat)(d d':Nat->α):Prop:= ∃σ τ:Nat->Nat,(∀j,σ (τ j)=j)/\(∀j,τ (σ j)=j)/\(∀j,a<=j->j<b->a<=σ j/\σ j<b)/\(∀j,j<a\/b<=j->σ j=j)/\ ∀j,d' j=d (σ j)
theorem SameI.refl (a b:Nat)(d:Nat->α):SameI a b d d:=⟨id,id,fun _=>rfl,fun _=>rfl,fun _ h k=>⟨h,k⟩,fun _ _=>rfl,fun _=>rfl⟩
theorem SameI.trans {a b:Nat}{f g h:Nat->α}(x:SameI a b f g)(y:SameI a b g h):SameI a b f h:=by
 obtain⟨σ,τ,h1,h2,h3,h4,h5⟩:=x
 obtain⟨σ',τ',k1,k2,k3,k4,k5⟩:=y
 exact⟨fun j=>σ (σ' j),fun j=>τ' (τ j),fun j=>by dsimp only;rw[k1,h1],fun j=>by dsimp only;rw[h2,k2],fun j hj hj'=>h3 _ (k3 _ hj hj').1 (k3 _ hj hj').2,fun j hj=>by dsimp only;rw[k4 _ hj,h4 _ hj],fun j=>by rw[k5,h5]⟩
theorem SameI.mono {a b a' b':Nat}{d d':Nat->α}(h:SameI a b d d')(ha:a'<=a)(hb:b<=b'):SameI a' b' d d':=by
 obtain⟨σ,τ,h1,h2,h3,h4,h5⟩:=h
 refine⟨σ,τ,h1,h2,fun j hj hj'=>?_,fun j hj=>h4 j om,h5⟩
 by_cases e:a<=j/\j<b
 ·have:=h3 j e.1 e.2;omega
 ·rw[h4 j om];exact⟨hj,hj'⟩
theorem SameI.swap {a b:Nat}(d:Nat->α){i j:Nat}(hi:a<=i)(hi':i<b)(hj:a<=j)(hj':j<b):SameI a b d (swp d i j):=by
 refine⟨fun m=>if m=j then i else if m=i then j else m,fun m=>if m=j then i else if m=i then j else m,fun m=>?_,fun m=>?_,fun m hm hm'=>?_,fun m hm=>?_,fun m=>?_⟩
 ·by_cases e1:m=j<;>by_cases e2:m=i<;>by_cases e3:i=j<;>simp_all
 ·by_cases e1:m=j<;>by_cases e2:m=i<;>by_cases e3:i=j<;>simp_all
 ·dsimp only;split
  ·exact⟨hi,hi'⟩
  ·split
   ·exact⟨hj,hj'⟩
   ·exact⟨hm,hm'⟩
 ·dsimp only;rw[if_neg om,if_neg om]
 ·dsimp only;split
  ·rename_i e;subst e;exact swp_r _ _ _
  ·split
   ·rename_i e;subst e;exact swp_l _ _ _
   ·rename_i e1 e2;exact swp_o _ e2 e1
theorem SameI.out {a b:Nat}{d d':Nat->α}(h:SameI a b d d'){j:Nat}(hj:j<a\/b<=j):d' j=d j:=by
 obtain⟨σ,τ,h1,h2,h3,h4,h5⟩:=h
 rw[h5,h4 j hj]
theorem SameI.back {a b:Nat}{d d':Nat->α}(h:SameI a b d d'){j:Nat}(hj:a<=j)(hj':j<b): ∃i,a<=i/\i<b/\d' j=d i:=by
 obtain⟨σ,τ,h1,h2,h3,h4,h5⟩:=h
 exact⟨σ j,(h3 j hj hj').1,(h3 j hj hj').2,h5 j⟩
theorem SameI.all {a b:Nat}{d d':Nat->α}(h:SameI a b d d'){P:α->Prop}(hp: ∀i,a<=i->i<b->P (d i)): ∀i,a<=i->i<b->P (d' i):=fun i h1 h2=>by
 obtain⟨j,j1,j2,e⟩:=h.back h1 h2
 rw[e];exact hp j j1 j2
structure SWO (lt:α->α->Bool):Prop where
 asymm: ∀a b,lt a b=true->lt b a=false
 ntrans: ∀a b c,lt a b=false->lt b c=false->lt a c=false
theorem SWO.irrefl {lt:α->α->Bool}(h:SWO lt)(a:α):lt a a=false:=by
 cases hq:lt a a with
 |false=>rfl
 |true=>have:=h.asymm _ _ hq;rw[hq]at this;exact this
def Sorted (lt:α->α->Bool)(a b:Nat)(d:Nat->α):Prop:= ∀i j,a<=i->i<j->j<b->lt (d j) (d i)=false
def BelowI (lt:α->α->Bool)(a b:Nat)(d:Nat->α):Prop:=a=0\/ ∀i,a<=i->i<b->lt (d i) (d (a-1))=false
def Ins (lt:α->α->Bool)(a i j:Nat)(d:Nat->α):Prop:= ∀x y,a<=x->x<y->y<=i->y≠j->lt (d y) (d x)=false
theorem Ins.stop1 {lt:α->α->Bool}{a i:Nat}{d:Nat->α}(h:Ins lt a i a d):Sorted lt a (i+1) d:=fun x y h1 h2 h3=>h x y h1 h2 om om
theorem Ins.stop2 {lt:α->α->Bool}(hw:SWO lt){a i j:Nat}{d:Nat->α}(h:Ins lt a i j d)(haj:a<j)(hji:j<=i)(hs:lt (d j) (d (j-1))=false):Sorted lt a (i+1) d:=fun x y h1 h2 h3=>by
 by_cases e:y=j
 ·subst e
  by_cases e2:x=y-1
  ·subst e2;exact hs
  ·exact hw.ntrans _ _ _ hs (h x (y-1) h1 om om om)
 ·exact h x y h1 h2 om e
theorem Ins.step {lt:α->α->Bool}(hw:SWO lt){a i j:Nat}{d:Nat->α}(h:Ins lt a i j d)(haj:a<j)(hji:j<=i)(hs:lt (d j) (d (j-1))=true):Ins lt a i (j-1) (swp d j (j-1)):=by
 intro x y h1 h2 h3 h4
 by_cases ey:y=j
 ·subst ey
  rw[swp_l]
  by_cases ex:x=y-1
  ·subst ex;rw[swp_r];exact hw.asymm _ _ hs
  ·rw[swp_o d om ex];exact h x (y-1) h1 om om om
 ·rw[swp_o d ey h4]
  by_cases ex:x=j
  ·subst ex;rw[swp_l];exact h (x-1) y om om h3 ey
  ·by_cases ex2:x=j-1
   ·subst ex2;rw[swp_r];exact h j y om om h3 ey
   ·rw[swp_o d ex ex2];exact h x y h1 h2 h3 ey
end Go.Tr
namespace Go.Proofs.YtpkoddfamelnhaaGreatDoor
open Go Go.Tr
set_option maxRecDepth 100000
structure SortI (α:Type) where
 v:IV
 n:Nat
 lt:α->α->Bool
 St:(Nat->α)->List Chunk
 small:n<2^60
 less: ∀(d:Nat->α) (i j:Int) (R:List Chunk) (w:World) (K:Bool->WP),Sat w (St d++R)->0<=i->i<n->0<=j->j<n->(∀w',Sat w' (St d++R)->K (lt (d i.toNat) (d j.toNat)) w')->
  CallI Tryz.prog v.enc "Less" [.int .i64 i,.int .i64 j] [.one .bool] K w
 swap: ∀(d:Nat->α) (i j:Int) (R:List Chunk) (w:World) (K:Unit->WP),Sat w (St d++R)->0<=i->i<n->0<=j->j<n->(∀w',Sat w' (St (swp d i.toNat j.toNat)++R)->K () w')->
  CallI Tryz.prog v.enc "Swap" [.int .i64 i,.int .i64 j] [] K w
theorem n1 {n:Nat}(h:0<n)(h':n<2^60):IntKind.i64.wrap ((n:Int)-1)=((n-1:Nat):Int):=by rw[wi64 om om];omega
section
variable {α : Type} {I : SortI α}
theorem spec157 (hw:SWO I.lt){d:Nat->α}{a b:Nat}{R w}{K:Unit->WP}(hs:Sat w (I.St d++R))(hab:a<=b)(hb:b<=I.n)
  (k: ∀d' w',SameI a b d d'->Sorted I.lt a b d'->Sat w' (I.St d'++R)->K () w'):F157 I.v a b K w:=by
 have hn:=I.small
 unfold F157
 rw[w1 om]
 refine⟨fun m (s:Int) w=> ∃(i:Nat) (d':Nat->α),s=i/\a<i/\m=b-i/\SameI a b d d'/\Sorted I.lt a (min i b) d'/\Sat w (I.St d'++R),⟨_,a+1,d,rfl,by omega,rfl,SameI.refl _ _ _,fun x y _ _ _=>by omega,hs⟩,?_⟩
 clear hs
 rintro m s w ⟨i,d',rfl,hai,hm,h1,h2,hs⟩
 refine ifd (fun hc=>?_) (fun hc=>?_)
 ·refine⟨fun m' (s:Int) w=> ∃(j:Nat) (d'':Nat->α),s=j/\a<=j/\j<=i/\m'=j/\SameI a b d d''/\Ins I.lt a i j d''/\Sat w (I.St d''++R),⟨_,i,d',rfl,by omega,by omega,rfl,h1,fun x y q1 q2 q3 q4=>h2 x y q1 q2 om,hs⟩,?_⟩
  clear hs h1 h2 d'
  rintro m' s w ⟨j,d',rfl,haj,hji,hm',h1,h2,hs⟩
  have fin: ∀w,Sorted I.lt a (i+1) d'->Sat w (I.St d'++R)-> ∃m1,m1<m/\ ∃(i':Nat) (d':Nat->α),IntKind.i64.wrap ((i:Int)+1)=i'/\a<i'/\m1=b-i'/\SameI a b d d'/\Sorted I.lt a (min i' b) d'/\Sat w (I.St d'++R):=
   fun w h3 hs=>⟨b-(i+1),by omega,i+1,d',w1 om,by omega,rfl,h1,fun x y q1 q2 q3=>h3 x y q1 q2 om,hs⟩
  refine ifd (fun hc'=>?_) (fun hc'=>?_)
  ·rw[n1 om om]
   refine I.less d' _ _ R w _ hs om om om om fun w hs=>?_
   rw[Int.toNat_natCast,Int.toNat_natCast]
   refine ifb (fun hl=>?_) (fun hl=>?_)
   ·refine I.swap d' _ _ R w _ hs om om om om fun w hs=>?_
    rw[Int.toNat_natCast,Int.toNat_natCast]at hs
    exact⟨j-1,by omega,j-1,_,rfl,by omega,by omega,rfl,h1.trans (SameI.swap _ om om om om),h2.step hw om hji hl,hs⟩
   ·exact fin w (h2.stop2 hw om hji hl) hs
  ·have:j=a:=by omega
   subst this
   exact fin w h2.stop1 hs
 ·exact k _ _ h1 (by rwa[Nat.min_eq_right om]at h2) hs
theorem SWO.flip {lt:α->α->Bool}(h:SWO lt):SW (fun x y=>lt y x):=⟨fun a b e=>h.asymm _ _ e,fun a b c e f=>h.ntrans _ _ _ f e⟩
theorem swp_off (d:Nat->α)(o i j:Nat):(fun p=>swp d (o+i) (o+j) (o+p))=upd (upd (fun p=>d (o+p)) i (d (o+j))) j (d (o+i)):=by
 funext p
 unfold swp upd
 by_cases e1:p=j
 ·subst e1;simp
 ·by_cases e2:p=i
  ·subst e2;rw[if_neg om,if_pos rfl,if_neg e1,if_pos rfl]
  ·rw[if_neg om,if_neg om,if_neg e1,if_neg e2]
def MaxH (lt:α->α->Bool)(d:Nat->α)(o n i0:Nat):Prop:=HeapFrom (fun x y=>lt y x) (fun p=>d (o+p)) n i0
theorem spec166 (hw:SWO I.lt){d:Nat->α}{lo hi o:Nat}{R w}{K:Unit->WP}(hs:Sat w (I.St d++R))(hlo:lo<=hi)(hb:o+hi<=I.n)(hh:MaxH I.lt d o hi (lo+1))
  (k: ∀d' w',SameI o (o+hi) d d'->MaxH I.lt d' o hi lo->Sat w' (I.St d'++R)->K () w'):F166 I.v lo hi o K w:=by
 have hn:=I.small
 unfold F166
 refine⟨fun m (s:Int) w=> ∃(d':Nat->α) (i:Nat),s=i/\lo<=i/\i<=hi/\m=hi-i/\SameI o (o+hi) d d'/\HInv (fun x y=>I.lt y x) (fun p=>d' (o+p)) hi lo i/\Sat w (I.St d'++R),⟨_,d,lo,rfl,Nat.le_refl _,hlo,rfl,SameI.refl _ _ _,HInv.start hh,hs⟩,?_⟩
 clear hs hh
 rintro m s w ⟨d',i,rfl,hi0,hiN,hm,hsm,hinv,hs⟩
 by_cases hbig:hi<=2*i+1
 ·have hsmall:(i:Int)<2^60:=by omega
  have e1:IntKind.i64.wrap ((IntKind.i64.wrap (2*(i:Int)))+1)=2*i+1:=by
   rw[wi64 (x:=2*(i:Int)) om om,wi64 om om]
  simp only[e1]
  exact ifd (fun _=>k _ _ hsm (hinv.stop1 hbig) hs) (fun hc=>by omega)
 have e1:IntKind.i64.wrap ((IntKind.i64.wrap (2*(i:Int)))+1)=2*i+1:=by
  rw[wi64 (x:=2*(i:Int)) om om,wi64 om om]
 have e2:IntKind.i64.wrap ((2*(i:Int)+1)+1)=2*i+2:=by rw[wi64 om om];omega
 have e3:IntKind.i64.wrap ((o:Int)+(2*(i:Int)+1))=((o+(2*i+1):Nat):Int):=by rw[wi64 om om];omega
 have e4:IntKind.i64.wrap (((o+(2*i+1):Nat):Int)+1)=((o+(2*i+2):Nat):Int):=by rw[wi64 om om];omega
 have e5:IntKind.i64.wrap ((o:Int)+(i:Int))=((o+i:Nat):Int):=by rw[wi64 om om];omega
 simp only[e1,e2,e3,e4,e5]
 refine ifd (fun hc=>by omega) (fun hc=>?_)
 refine⟨fun(x:Int) w=> ∃j:Nat,x=j/\0<j/\j<hi/\(j-1)/2=i/\(∀m,0<m->m<hi->(m-1)/2=i->I.lt (d' (o+j)) (d' (o+m))=false)/\Sat w (I.St d'++R),?_,?_⟩
 ·rintro x w ⟨j,rfl,hj0,hjn,hjp,hmax,hs⟩
  have e6:IntKind.i64.wrap ((o:Int)+(j:Int))=((o+j:Nat):Int):=by rw[wi64 om om];omega
  rw[e6]
  refine I.less d' _ _ R w _ hs om om om om fun w hs=>?_
  rw[Int.toNat_natCast,Int.toNat_natCast]
  refine ifn (fun hl=>?_) (fun hl=>?_)
  ·exact k _ _ hsm (hinv.stop2 (j:=j) (SWO.flip hw) hmax hl) hs
  ·refine I.swap d' _ _ R w _ hs om om om om fun w hs=>?_
   rw[Int.toNat_natCast,Int.toNat_natCast]at hs
   refine⟨hi-j,by omega,_,j,rfl,by omega,by omega,rfl,hsm.trans (SameI.swap d' (i:=o+i) (j:=o+j) om om om om),?_,hs⟩
   rw[swp_off]
   exact hinv.step (SWO.flip hw) hi0 hmax ⟨hj0,hjn,hjp⟩ hl
 ·refine ifd (fun hc=>?_) (fun hc=>?_)
  ·refine I.less d' _ _ R w _ hs om om om om fun w hs=>?_
   rw[Int.toNat_natCast,Int.toNat_natCast]
   refine ifb (fun hl=>?_) (fun hl=>?_)
   ·refine⟨2*i+2,by omega,by omega,by omega,by omega,fun m h0 h1 h2=>?_,hs⟩
    have hm:m=2*i+1\/m=2*i+2:=by omega
    rcases hm with rfl|rfl
    ·exact hw.asymm _ _ hl
    ·exact hw.irrefl _
   ·refine⟨2*i+1,by omega,by omega,by omega,by omega,fun m h0 h1 h2=>?_,hs⟩
    have hm:m=2*i+1\/m=2*i+2:=by omega
    rcases hm with rfl|rfl
    ·exact hw.irrefl _
    ·exact hl
  ·refine⟨2*i+1,by omega,by omega,by omega,by omega,fun m h0 h1 h2=>?_,hs⟩
   have hm:m=2*i+1:=by omega
   subst hm
   exact hw.irrefl _
theorem MaxH.root {lt:α->α->Bool}(hw:SWO lt){d:Nat->α}{o n:Nat}(h:MaxH lt d o n 0): ∀m,m<n->lt (d o) (d (o+m))=false:=by
 intro m
 induction m using Nat.strongRecOn with
 |_ m ih=>
  intro hm
  by_cases e:m=0
  ·subst e;exact hw.irrefl _
  ·exact hw.ntrans _ _ _ (ih ((m-1)/2) om om) (h m om hm (Nat.zero_le _))
theorem spec158 (hw:SWO I.lt){d:Nat->α}{a b:Nat}{R w}{K:Unit->WP}(hs:Sat w (I.St d++R))(hab:a<=b)(hb:b<=I.n)
  (k: ∀d' w',SameI a b d d'->Sorted I.lt a b d'->Sat w' (I.St d'++R)->K () w'):F158 I.v a b K w:=by
 have hn:=I.small
 unfold F158
 have e1:IntKind.i64.wrap ((b:Int)-(a:Int))=((b-a:Nat):Int):=by rw[wi64 om om];omega
 have e2:IntKind.i64.wrap (((b-a:Nat):Int)-1)=((b-a:Nat):Int)-1:=by rw[wi64 om om]
 have e3: ∃q:Nat,IntKind.i64.wrap ((((b-a:Nat):Int)-1).tdiv 2)=q/\b-a<=2*q+2/\(q<=b-a):=by
  by_cases e:b-a=0
  ·refine⟨0,?_,by omega,by omega⟩
   rw[e];decide
  ·refine⟨(b-a-1)/2,?_,by omega,by omega⟩
   rw[Int.tdiv_eq_ediv_of_nonneg om,wi64 om om];omega
 obtain⟨q,e3,hq,hq'⟩:=e3
 simp only[e1,e2,e3]
 refine⟨by omega,?_⟩
 refine⟨fun m (s:Int) w=> ∃(d':Nat->α) (i:Nat),s=(i:Int)-1/\i<=b-a+1/\m=i/\SameI a b d d'/\MaxH I.lt d' a (b-a) i/\Sat w (I.St d'++R),⟨_,d,q+1,by omega,by omega,rfl,SameI.refl _ _ _,fun m h0 h1 h2=>by omega,hs⟩,?_⟩
 clear hs
 rintro m s w ⟨d',i,rfl,hi,hm,h1,h2,hs⟩
 have hba:a+(b-a)=b:=by omega
 refine ifd (fun hc=>?_) (fun hc=>?_)
 ·have e:((i:Int)-1)=((i-1:Nat):Int):=by omega
  rw[e]
  refine call166 (spec166 (lo:=i-1) (hi:=b-a) (o:=a) hw hs om om (by rw[show i-1+1=i by omega];exact h2) fun d'' w h3 h4 hs=>?_)
  rw[hba]at h3
  refine⟨i-1,by omega,d'',i-1,?_,by omega,rfl,h1.trans h3,h4,hs⟩
  rw[wi64 om om]
 ·have:i=0:=by omega
  subst this
  refine⟨fun m (s:Int) w=> ∃(d':Nat->α) (i:Nat),s=(i:Int)-1/\i<=b-a/\m=i/\SameI a b d d'/\MaxH I.lt d' a i 0/\Sorted I.lt (a+i) b d'/\(∀x y,x<i->a+i<=y->y<b->I.lt (d' y) (d' (a+x))=false)/\Sat w (I.St d'++R),⟨_,d',b-a,rfl,by omega,rfl,h1,h2,fun x y q1 q2 q3=>by omega,fun x y q1 q2 q3=>by omega,hs⟩,?_⟩
  clear hs h1 h2 d' hc hm hi
  rintro m s w ⟨d',i,rfl,hi,hm,h1,h2,h3,h4,hs⟩
  refine ifd (fun hc=>?_) (fun hc=>?_)
  ·have e:((i:Int)-1)=((i-1:Nat):Int):=by omega
   have e':IntKind.i64.wrap ((a:Int)+((i-1:Nat):Int))=((a+(i-1):Nat):Int):=by rw[wi64 om om];omega
   simp only[e,e']
   refine I.swap d' _ _ R w _ hs om om om om fun w hs=>?_
   rw[Int.toNat_natCast,Int.toNat_natCast]at hs
   refine call166 (spec166 (lo:=0) (hi:=i-1) (o:=a) hw hs om om ?_ fun d'' w h5 h6 hs=>?_)
   ·intro m m0 m1 m2
    have:=h2 m m0 om (Nat.zero_le _)
    dsimp only at this|-
    rw[swp_o _ om om,swp_o _ om om]
    exact this
   ·have hroot:=MaxH.root hw h2
    have hlast:d'' (a+(i-1))=d' a:=by rw[h5.out om,swp_r]
    have hrest: ∀y,a+i<=y->y<b->d'' y=d' y:=fun y y1 y2=>by rw[h5.out om,swp_o _ om om]
    have hheap: ∀x,x<i-1-> ∃x',x'<i/\d'' (a+x)=d' (a+x'):=fun x hx=>by
     obtain⟨z,z1,z2,ez⟩:=h5.back (j:=a+x) om om
     by_cases ea:z=a
     ·subst ea;exact⟨i-1,by omega,by rw[ez,swp_l]⟩
     ·exact⟨z-a,by omega,by rw[ez,swp_o _ ea om];congr 1;omega⟩
    refine⟨i-1,by omega,d'',i-1,?_,by omega,rfl,h1.trans ((SameI.swap d' om om om om).trans (h5.mono (Nat.le_refl _) om)),h6,?_,?_,hs⟩
    ·rw[wi64 om om]
    ·intro x y q1 q2 q3
     by_cases ex:x=a+(i-1)
     ·subst ex
      rw[hlast,hrest y om q3]
      exact h4 0 y om om q3
     ·rw[hrest x om om,hrest y om q3]
      exact h3 x y om q2 q3
    ·intro x y q1 q2 q3
     obtain⟨x',x1,ex⟩:=hheap x q1
     rw[ex]
     by_cases ey:y=a+(i-1)
     ·subst ey;rw[hlast];exact hroot x' x1
     ·rw[hrest y om q3];exact h4 x' y x1 om q3
  ·have:i=0:=by omega
   subst this
   exact k _ _ h1 h3 hs
theorem spec161 {d:Nat->α}{a b:Nat}{R w}{K:Unit->WP}(hs:Sat w (I.St d++R))(hab:a<b)(hb:b<=I.n)
  (k: ∀d' w',SameI a b d d'->Sat w' (I.St d'++R)->K () w'):F161 I.v a b K w:=by
 have hn:=I.small
 unfold F161
 rw[n1 om om]
 refine⟨fun m (s:Int×Int) w=> ∃(d':Nat->α) (i j:Nat),s=((i:Int),(j:Int))/\a<=i/\j<b/\i<=b/\m=b-i/\SameI a b d d'/\Sat w (I.St d'++R),⟨_,d,a,b-1,rfl,by omega,by omega,by omega,rfl,SameI.refl _ _ _,hs⟩,?_⟩
 clear hs
 rintro m s w ⟨d',i,j,rfl,hi,hj,hib,hm,h1,hs⟩
 refine ifd (fun hc=>?_) (fun hc=>?_)
 ·dsimp only at hc|-
  refine I.swap d' _ _ R w _ hs om om om om fun w hs=>?_
  rw[Int.toNat_natCast,Int.toNat_natCast]at hs
  rw[w1 om,n1 om om]
  exact⟨b-(i+1),by omega,_,i+1,j-1,rfl,by omega,by omega,by omega,rfl,h1.trans (SameI.swap d' om om om om),hs⟩
 ·exact k _ _ h1 hs
end
end Go.Proofs.YtpkoddfamelnhaaGreatDoor
