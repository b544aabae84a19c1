/- Part 5 of the proof of fnBatchHistory_card. Conditions: none. -/
import Derived.Test.YtpkoddfamelnhaaGreatDoorH04
import Derived.Test.YtpkoddfamelnhaaGreatDoorProg
import Derived.KernelRfl
set_option linter.unusedVariables false
set_option linter.unusedSimpArgs false
namespace Go.Proofs.YtpkoddfamelnhaaGreatDoor
open Go Go.Tr
set_option maxRecDepth 100000
def td51 :TD:=.st [.str,.str] [(0,.one (.str)),(1,.one (.str))]
def td65 :TD:=.st [.int .u64,.str,.str] [(0,.one (.int .u64)),(1,.one (.str)),(2,.one (.str))]
def si22 :SI:=⟨69,80,[.int .u8,.str,.str,.str,.str,.int .u32]⟩
def si24 :SI:=⟨94,40,[.str,.int .u64,.str]⟩
def si25 :SI:=⟨44,56,[.str,.str,.sl]⟩
def si28 :SI:=⟨104,80,[.int .u8,.str,.str,.str,.str,.int .u32]⟩
def si31 :SI:=⟨51,32,[.str,.str]⟩
def si33 :SI:=⟨46,64,[.bool,.bool,.str,.str,.sl]⟩
def si35 :SI:=⟨25,24,[.sl]⟩
def si41 :SI:=⟨40,24,[.int .u8,.str]⟩
def si42 :SI:=⟨49,40,[.int .u64,.str,.str]⟩
def si54 :SI:=⟨64,56,[.str,.str,.sl]⟩
def si57 :SI:=⟨22,24,[.sl]⟩
def si62 :SI:=⟨65,40,[.int .u64,.str,.str]⟩
def si87 :SI:=⟨5,1,[.int .u8]⟩
def si109 :SI:=⟨267,56,[.int .u64,.sl,.sl]⟩
def si152 :SI:=⟨267,56,[.int .u64,.sl,.sl]⟩
def si153 :SI:=⟨119,56,[.ifc,.int .i8,.sl,.ptr]⟩
def si154 :SI:=⟨123,16,[.ptr,.int .i64]⟩
def si159 :SI:=⟨5,1,[.int .u8]⟩
def si166 :SI:=⟨101,16,[.ifc]⟩
def si188 :SI:=⟨9,16,[.str]⟩
def si193 :SI:=⟨113,80,[.sl,.sl,.sl,.int .i8]⟩
def si243 :SI:=⟨252,16,[.int .u32,.int .u32,.int .u32,.int .u32]⟩
def si248 :SI:=⟨5,1,[.int .u8]⟩
def si272 :SI:=⟨87,24,[.sl]⟩
def si273 :SI:=⟨282,48,[.sl,.sl]⟩
def si313 :SI:=⟨428,16,[.ifc]⟩
def si326 :SI:=⟨20,16,[.ifc]⟩
abbrev sS :TD:=.sc .sl
abbrev sP :TD:=.sc .ptr
abbrev sI :TD:=.sc .ifc
abbrev sF :TD:=.sc .fn
abbrev oS :Ty:=.one .sl
abbrev oP :Ty:=.one .ptr
abbrev oI :Ty:=.one .ifc
abbrev oB :Ty:=.one .bool
abbrev oT :Ty:=.one .str
def TT :Tab:={td:=[(0,.tup []),(3,.sc (.int .i64)),(4,.sc .bool),(5,.sc (.int .u8)),(9,.sc .str),(20,sI),(22,sS),(24,sS),(25,sS),(26,.tup [oS,oS,oS,oB]),(28,sS),(31,sS),(33,sS),(35,sS),(36,.sc (.int .u64)),(38,.st [.str,.bool] [(0,oT),(1,oB)]),(40,.st [.int .u8,.str] [(0,.one (.int .u8)),(1,oT)]),(41,sS),(42,sS),(44,.st [.str,.str,.sl] [(0,oT),(1,oT),(2,oS)]),(46,.st [.bool,.bool,.str,.str,.sl] [(0,oB),(1,oB),(2,.agg [.str,.str,.sl])]),(49,.st [.int .u64,.str,.str] [(0,.one (.int .u64)),(1,oT),(2,oT)]),(51,td51),(54,sS),(57,sS),(59,.tup [oS,oB]),(61,.sc (.int .u64)),(62,sS),(64,.st [.str,.str,.sl] [(0,oT),(1,oT),(2,oS)]),(65,td65),(67,.sc (.int .u32)),(69,.st [.int .u8,.str,.str,.str,.str,.int .u32] [(0,.one (.int .u8)),(1,oT),(2,oT),(3,oT),(4,oT),(5,.one (.int .u32))]),(73,sP),(74,.tup [oP,oB]),(76,sP),(78,sI),(79,.tup [oP,oI]),(81,sP),(84,sI),(86,sP),(87,sS),(88,sP),(90,.st [.sl,.ptr] [(0,oS),(1,oP)]),(91,.tup [oP,.agg [.sl,.ptr]]),(94,.st [.str,.int .u64,.str] [(0,oT),(1,.one (.int .u64)),(2,oT)]),(97,.st [.sl,.int .u64] [(0,oS),(1,.one (.int .u64))]),(101,sI),(104,.st [.int .u8,.str,.str,.str,.str,.int .u32] [(0,.one (.int .u8)),(1,oT),(2,oT),(3,oT),(4,oT),(5,.one (.int .u32))]),(106,sP),(108,sI),(109,sS),(110,.sc (.int .i8)),(111,.sc (.int .i8)),(113,.st [.sl,.sl,.sl,.int .i8] [(0,oS),(1,oS),(2,oS),(3,.one (.int .i8))]),(114,.sc (.int .i8)),(115,sP),(117,.st [.int .i8,.sl,.ptr] [(0,.one (.int .i8)),(1,oS),(2,oP)]),(119,.st [.ifc,.int .i8,.sl,.ptr] [(0,oI),(1,.agg [.int .i8,.sl,.ptr])]),(120,.ar 10 (.agg [.ifc,.int .i8,.sl,.ptr]) [.ifc,.int .i8,.sl,.ptr,.ifc,.int .i8,.sl,.ptr,.ifc,.int .i8,.sl,.ptr,.ifc,.int .i8,.sl,.ptr,.ifc,.int .i8,.sl,.ptr,.ifc,.int .i8,.sl,.ptr,.ifc,.int .i8,.sl,.ptr,.ifc,.int .i8,.sl,.ptr,.ifc,.int .i8,.sl,.ptr,.ifc,.int .i8,.sl,.ptr]),(121,sP),(123,.st [.ptr,.int .i64] [(0,oP),(1,.one (.int .i64))]),(124,.ar 10 (.agg [.ptr,.int .i64]) [.ptr,.int .i64,.ptr,.int .i64,.ptr,.int .i64,.ptr,.int .i64,.ptr,.int .i64,.ptr,.int .i64,.ptr,.int .i64,.ptr,.int .i64,.ptr,.int .i64,.ptr,.int .i64]),(125,.st [.ifc,.int .i8,.sl,.ptr,.ifc,.int .i8,.sl,.ptr,.ifc,.int .i8,.sl,.ptr,.ifc,.int .i8,.sl,.ptr,.ifc,.int .i8,.sl,.ptr,.ifc,.int .i8,.sl,.ptr,.ifc,.int .i8,.sl,.ptr,.ifc,.int .i8,.sl,.ptr,.ifc,.int .i8,.sl,.ptr,.ifc,.int .i8,.sl,.ptr,.ptr,.int .i64,.ptr,.int .i64,.ptr,.int .i64,.ptr,.int .i64,.ptr,.int .i64,.ptr,.int .i64,.ptr,.int .i64,.ptr,.int .i64,.ptr,.int .i64,.ptr,.int .i64] [(0,.agg [.ifc,.int .i8,.sl,.ptr,.ifc,.int .i8,.sl,.ptr,.ifc,.int .i8,.sl,.ptr,.ifc,.int .i8,.sl,.ptr,.ifc,.int .i8,.sl,.ptr,.ifc,.int .i8,.sl,.ptr,.ifc,.int .i8,.sl,.ptr,.ifc,.int .i8,.sl,.ptr,.ifc,.int .i8,.sl,.ptr,.ifc,.int .i8,.sl,.ptr]),(40,.agg [.ptr,.int .i64,.ptr,.int .i64,.ptr,.int .i64,.ptr,.int .i64,.ptr,.int .i64,.ptr,.int .i64,.ptr,.int .i64,.ptr,.int .i64,.ptr,.int .i64,.ptr,.int .i64])]),(127,.st [.ptr,.sl,.sl,.ifc,.sl,.sl,.sl,.int .i8,.ifc,.int .i8,.ifc,.int .i8,.sl,.ptr,.ifc,.int .i8,.sl,.ptr,.ifc,.int .i8,.sl,.ptr,.ifc,.int .i8,.sl,.ptr,.ifc,.int .i8,.sl,.ptr,.ifc,.int .i8,.sl,.ptr,.ifc,.int .i8,.sl,.ptr,.ifc,.int .i8,.sl,.ptr,.ifc,.int .i8,.sl,.ptr,.ifc,.int .i8,.sl,.ptr,.ptr,.int .i64,.ptr,.int .i64,.ptr,.int .i64,.ptr,.int .i64,.ptr,.int .i64,.ptr,.int .i64,.ptr,.int .i64,.ptr,.int .i64,.ptr,.int .i64,.ptr,.int .i64] [(0,oP),(1,oS),(2,oS),(3,oI),(4,.agg [.sl,.sl,.sl,.int .i8]),(8,oI),(9,.one (.int .i8)),(10,.agg [.ifc,.int .i8,.sl,.ptr,.ifc,.int .i8,.sl,.ptr,.ifc,.int .i8,.sl,.ptr,.ifc,.int .i8,.sl,.ptr,.ifc,.int .i8,.sl,.ptr,.ifc,.int .i8,.sl,.ptr,.ifc,.int .i8,.sl,.ptr,.ifc,.int .i8,.sl,.ptr,.ifc,.int .i8,.sl,.ptr,.ifc,.int .i8,.sl,.ptr,.ptr,.int .i64,.ptr,.int .i64,.ptr,.int .i64,.ptr,.int .i64,.ptr,.int .i64,.ptr,.int .i64,.ptr,.int .i64,.ptr,.int .i64,.ptr,.int .i64,.ptr,.int .i64])]),(128,sF),(129,sF),(131,sF),(132,sP),(133,sP),(134,.sc (.int .i8)),(136,.st [.ifc,.ptr,.fn,.fn,.sl,.sl,.ptr,.ptr,.int .i8] [(0,oI),(1,oP),(2,.one .fn),(3,.one .fn),(4,oS),(5,oS),(6,oP),(7,oP),(8,.one (.int .i8))]),(137,sP),(139,sF),(140,.sc (.int .i8)),(142,sI),(144,sF),(146,.st [.ptr,.ptr,.fn,.ifc,.ptr,.int .i8,.sl,.sl,.sl,.int .i8,.ifc,.fn] [(0,oP),(1,oP),(2,.one .fn),(3,oI),(4,oP),(5,.one (.int .i8)),(6,.agg [.sl,.sl,.sl,.int .i8]),(10,oI),(11,.one .fn)]),(147,sP),(149,.st [.int .u64,.ptr,.ptr,.sl,.sl,.ifc,.sl,.sl,.sl,.int .i8,.ifc,.int .i8,.ifc,.int .i8,.sl,.ptr,.ifc,.int .i8,.sl,.ptr,.ifc,.int .i8,.sl,.ptr,.ifc,.int .i8,.sl,.ptr,.ifc,.int .i8,.sl,.ptr,.ifc,.int .i8,.sl,.ptr,.ifc,.int .i8,.sl,.ptr,.ifc,.int .i8,.sl,.ptr,.ifc,.int .i8,.sl,.ptr,.ifc,.int .i8,.sl,.ptr,.ptr,.int .i64,.ptr,.int .i64,.ptr,.int .i64,.ptr,.int .i64,.ptr,.int .i64,.ptr,.int .i64,.ptr,.int .i64,.ptr,.int .i64,.ptr,.int .i64,.ptr,.int .i64,.ifc,.ptr,.fn,.fn,.sl,.sl,.ptr,.ptr,.int .i8,.ptr,.ptr,.fn,.ifc,.ptr,.int .i8,.sl,.sl,.sl,.int .i8,.ifc,.fn,.bool,.ptr] [(0,.one (.int .u64)),(1,oP),(2,.agg [.ptr,.sl,.sl,.ifc,.sl,.sl,.sl,.int .i8,.ifc,.int .i8,.ifc,.int .i8,.sl,.ptr,.ifc,.int .i8,.sl,.ptr,.ifc,.int .i8,.sl,.ptr,.ifc,.int .i8,.sl,.ptr,.ifc,.int .i8,.sl,.ptr,.ifc,.int .i8,.sl,.ptr,.ifc,.int .i8,.sl,.ptr,.ifc,.int .i8,.sl,.ptr,.ifc,.int .i8,.sl,.ptr,.ifc,.int .i8,.sl,.ptr,.ptr,.int .i64,.ptr,.int .i64,.ptr,.int .i64,.ptr,.int .i64,.ptr,.int .i64,.ptr,.int .i64,.ptr,.int .i64,.ptr,.int .i64,.ptr,.int .i64,.ptr,.int .i64]),(72,.agg [.ifc,.ptr,.fn,.fn,.sl,.sl,.ptr,.ptr,.int .i8]),(81,.agg [.ptr,.ptr,.fn,.ifc,.ptr,.int .i8,.sl,.sl,.sl,.int .i8,.ifc,.fn]),(93,oB),(94,oP)]),(152,sS),(153,sS),(154,sS),(156,.st [.fn,.bool,.sl] [(0,.one .fn),(1,oB),(2,oS)]),(158,.st [.sl,.sl,.fn,.bool,.sl,.sl] [(0,oS),(1,oS),(2,.agg [.fn,.bool,.sl]),(5,oS)]),(159,sS),(161,.st [.sl,.sl,.sl] [(0,oS),(1,oS),(2,oS)]),(163,.st [.fn,.sl] [(0,.one .fn),(1,oS)]),(165,.st [.sl,.sl,.fn,.bool,.sl,.sl,.sl,.sl,.sl,.fn,.sl] [(0,.agg [.sl,.sl,.fn,.bool,.sl,.sl]),(6,.agg [.sl,.sl,.sl]),(9,.agg [.fn,.sl])]),(166,sS),(170,sF),(171,sF),(173,sF),(175,sF),(177,sF),(178,sF),(180,.st [.fn,.fn,.fn,.fn,.fn,.fn,.fn,.fn,.str] [(0,.one .fn),(1,.one .fn),(2,.one .fn),(3,.one .fn),(4,.one .fn),(5,.one .fn),(6,.one .fn),(7,.one .fn),(8,oT)]),(183,.tup [oS,oB]),(185,.tup [.agg [.str,.str,.sl],oB]),(188,sS),(189,sP),(190,sP),(192,.st [.ptr,.sl,.sl,.int .u32] [(0,oP),(1,oS),(2,oS),(3,.one (.int .u32))]),(193,sS),(194,.sc (.int .u64)),(196,.st [.sl,.fn,.fn,.fn,.int .u64,.ptr,.int .u64,.int .u64,.int .u64,.ptr,.sl,.sl,.int .u32,.ptr,.ptr,.ptr,.sl,.int .u64,.sl,.int .u64,.ptr,.int .u64,.ifc,.bool,.bool] [(0,oS),(1,.one .fn),(2,.one .fn),(3,.one .fn),(4,.one (.int .u64)),(5,oP),(6,.one (.int .u64)),(7,.one (.int .u64)),(8,.one (.int .u64)),(9,.agg [.ptr,.sl,.sl,.int .u32]),(13,oP),(14,oP),(15,oP),(16,oS),(17,.one (.int .u64)),(18,oS),(19,.one (.int .u64)),(20,oP),(21,.one (.int .u64)),(22,oI),(23,oB),(24,oB)]),(198,.st [] []),(202,.st [.sl,.fn,.fn,.fn,.int .u64,.ptr,.int .u64,.int .u64,.int .u64,.ptr,.sl,.sl,.int .u32,.ptr,.ptr,.ptr,.sl,.int .u64,.sl,.int .u64,.ptr,.int .u64,.ifc,.bool,.bool,.int .u32] [(0,.agg [.sl,.fn,.fn,.fn,.int .u64,.ptr,.int .u64,.int .u64,.int .u64,.ptr,.sl,.sl,.int .u32,.ptr,.ptr,.ptr,.sl,.int .u64,.sl,.int .u64,.ptr,.int .u64,.ifc,.bool,.bool]),(25,.agg [.int .u32])]),(204,.st [] []),(205,sP),(207,sP),(214,sP),(217,sP),(219,sP),(221,sF),(222,sP),(223,sP),(229,sF),(230,.tup [.agg [.sl,.sl,.sl,.int .i8],oI]),(233,sP),(235,sP),(236,sF),(237,.sc (.int .u8)),(243,sS),(246,.st [.fn,.fn,.sl,.int .u64,.sl,.sl,.sl] [(0,.one .fn),(1,.one .fn),(2,oS),(3,.one (.int .u64)),(4,oS),(5,oS),(6,oS)]),(248,sS),(249,.tup [.one (.int .u8),oS,oS,oB,oI]),(252,.st [.int .u32,.int .u32,.int .u32,.int .u32] [(0,.one (.int .u32)),(1,.one (.int .u32)),(2,.one (.int .u32)),(3,.one (.int .u32))]),(255,.st [.fn,.sl] [(0,.one .fn),(1,oS)]),(257,.st [.fn,.fn,.fn,.sl,.sl,.fn,.sl,.sl,.sl,.bool] [(0,.one .fn),(1,.one .fn),(2,.one .fn),(3,oS),(4,oS),(5,.agg [.fn,.sl]),(7,oS),(8,oS),(9,oB)]),(258,sP),(260,.st [.ptr,.sl,.sl,.fn,.int .i64,.sl,.int .u64,.ifc,.sl,.sl] [(0,oP),(1,oS),(2,oS),(3,.one .fn),(4,.one (.int .i64)),(5,.agg [.sl,.int .u64]),(7,oI),(8,oS),(9,oS)]),(263,.st [] []),(267,.st [.int .u64,.sl,.sl] [(0,.one (.int .u64)),(1,oS),(2,oS)]),(269,.st [.fn,.sl,.int .i64] [(0,.one .fn),(1,oS),(2,.one (.int .i64))]),(272,sS),(273,sS),(275,.st [.fn,.sl,.sl,.sl] [(0,.one .fn),(1,oS),(2,oS),(3,oS)]),(277,.tup [oS,oS,oB]),(282,.st [.sl,.sl] [(0,oS),(1,oS)]),(283,.tup [.agg [.sl,.sl],oS,oB]),(289,sP),(290,sP),(295,.ar 1 (oS) [.sl]),(298,.ar 1 (.agg [.sl,.sl]) [.sl,.sl]),(303,sP),(306,sI),(311,sF),(312,sF),(313,sS),(314,.sc (.int .i8)),(315,sF),(317,.st [.sl,.fn] [(0,oS),(1,.one .fn)]),(318,.sc (.int .u32)),(320,.st [.sl,.sl,.fn,.fn,.sl,.sl,.int .i8,.sl,.fn,.bool,.bool,.int .u32,.bool,.int .u64] [(0,oS),(1,oS),(2,.one .fn),(3,.one .fn),(4,oS),(5,oS),(6,.one (.int .i8)),(7,.agg [.sl,.fn]),(9,oB),(10,oB),(11,.one (.int .u32)),(12,oB),(13,.one (.int .u64))]),(321,sP),(323,.tup [.one (.int .u64),.one (.int .i64)]),(326,sS),(328,sP),(329,sP),(337,.ar 10 (.one (.int .u8)) [.int .u8,.int .u8,.int .u8,.int .u8,.int .u8,.int .u8,.int .u8,.int .u8,.int .u8,.int .u8]),(342,.sc (.int .i64)),(343,.tup [.one (.int .i64),.one (.int .i64)]),(348,.tup [.one (.int .i64),oB]),(356,.sc (.int .u64)),(359,sP),(361,sP),(362,.tup [.one (.int .i64),.one (.int .i64)]),(364,sP),(396,sP),(397,.tup [oB,oP]),(399,sP),(401,sP),(403,sP),(404,sP),(411,.tup [oS,oS]),(421,sF),(428,sI),(432,.st [.str] [(0,oT)])],si:=[(22,si22),(24,si24),(25,si25),(28,si28),(31,si31),(33,si33),(35,si35),(41,si41),(42,si42),(54,si54),(57,si57),(62,si62),(87,si87),(109,si109),(152,si152),(153,si153),(154,si154),(159,si159),(166,si166),(188,si188),(193,si193),(243,si243),(248,si248),(272,si272),(273,si273),(313,si313),(326,si326)],eq:=[51,65]}
def tdA (P:Program)(x:Nat×TD):Option S×Option (List (Nat×Option Nat×Option Bool))×Option (Option Value×Nat)×Option (Nat×Option Nat×Option Bool):=
 match x.2 with
 | .sc _=>((P.underlying x.1).bind kindOf,none,(P.info? x.1).map fun i=>(i.zero,i.size),none)
 | .st _ _=>(none,fieldsOf P x.1,(P.info? x.1).map fun i=>(i.zero,i.size),none)
 | .ar _ _ _=>(none,none,(P.info? x.1).map fun i=>(i.zero,i.size),match P.underlying x.1 with|some (.array n e)=>some (n,(P.info? e).map (·.size),(P.underlying e).map aggD)|_=>none)
 | .tup _=>(none,none,none,none)
def tdB (x:Nat×TD):Option S×Option (List (Nat×Option Nat×Option Bool))×Option (Option Value×Nat)×Option (Nat×Option Nat×Option Bool):=
 match x.2 with
 | .sc s=>(some s,none,some (some s.zero,1),none)
 | .st l fs=>(none,some (fs.map fun(o,ty)=>(o,some ty.size,some ty.isAgg)),some (some (.agg (l.map S.zero).toArray),l.length),none)
 | .ar n el l=>(none,none,some (some (.agg (l.map S.zero).toArray),l.length),some (n,some el.size,some el.isAgg))
 | .tup _=>(none,none,none,none)
theorem td_of {P:Program}{x:Nat×TD}(h:tdA P x=tdB x):TDok P x.1 x.2:=by
 obtain⟨t,d⟩:=x
 cases d with
 |tup l=>trivial
 |sc s=>
  simp only[tdA,tdB,Prod.mk.injEq]at h
  exact⟨h.1,h.2.2.1⟩
 |st l fs=>
  simp only[tdA,tdB,Prod.mk.injEq]at h
  exact⟨h.2.1,h.2.2.1⟩
 | ar n el l =>
  simp only[tdA,tdB,Prod.mk.injEq]at h
  obtain⟨_,_,h2,h3⟩:=h
  refine⟨?_,h2⟩
  split at h3
  ·rename_i m e hu
   simp only[Option.some.injEq,Prod.mk.injEq]at h3
   obtain⟨rfl,a,b⟩:=h3
   exact⟨e,hu,a,b⟩
  ·cases h3
theorem tds_of {P:Program}: ∀{l:List (Nat×TD)},l.map (tdA P)=l.map tdB-> ∀x∈l,TDok P x.1 x.2
 | [],_,x,hx=>by cases hx
 |y::l,h,x,hx=>by
  rw[List.map_cons,List.map_cons,List.cons.injEq]at h
  rcases List.mem_cons.1 hx with rfl|hx
  ·exact td_of h.1
  ·exact tds_of h.2 x hx
def siA (P:Program)(x:Nat×SI):Option TypeDesc×Option (Option (List Value)×Nat×Nat):=(P.underlying x.1,(P.info? x.2.e).map fun i=>(i.zero.map (·.cells.toList),i.size,i.bytes))
def siB (x:Nat×SI):Option TypeDesc×Option (Option (List Value)×Nat×Nat):=(some (.slice x.2.e),some (some (x.2.l.map S.zero),x.2.l.length,x.2.by_))
theorem sis_of {P:Program}: ∀{l:List (Nat×SI)},l.map (siA P)=l.map siB-> ∀x∈l,SIok P x.1 x.2
 | [],_,x,hx=>by cases hx
 | y :: l, h, x, hx => by
  rw[List.map_cons,List.map_cons,List.cons.injEq]at h
  rcases List.mem_cons.1 hx with rfl|hx
  ·have h1:=h.1
   simp only[siA,siB,Prod.mk.injEq]at h1
   exact h1
  ·exact sis_of h.2 x hx
theorem TT_ok :TT.ok Tryz.prog:=⟨tds_of (by kernel_rfl),sis_of (by kernel_rfl)⟩
end Go.Proofs.YtpkoddfamelnhaaGreatDoor
