/- Part 6 of the proof of fnBatchHistory_card. Conditions: none. -/
import Derived.Test.YtpkoddfamelnhaaGreatDoorH05
import Derived.Test.YtpkoddfamelnhaaGreatDoorChecked
import Derived.Laws.StructEq
import Derived.Eval
set_option linter.unusedVariables false
set_option linter.unusedSimpArgs false
namespace Go.Proofs.YtpkoddfamelnhaaGreatDoor
open Go Go.Tr
set_option maxRecDepth 100000
theorem fits_str {l:List S}{xs:List Value}(h:fits (.str::l) xs=true): ∃s r,xs= .string s::r/\fits l r=true:=by
 cases xs with
 |nil=>simp[fits]at h
 |cons v r=>cases v<;>simp only[fits]at h<;>first|exact⟨_,_,rfl,h⟩|cases h
theorem fits_int {k:IntKind}{l:List S}{xs:List Value}(h:fits (.int k::l) xs=true): ∃s r,xs= .int k s::r/\fits l r=true:=by
 cases xs with
 |nil=>simp[fits]at h
 | cons v r =>
  cases v with
  |int k' n=>
   simp only[fits,Bool.and_eq_true,decide_eq_true_eq]at h
   obtain⟨rfl,h⟩:=h
   exact⟨_,_,rfl,h⟩
  |_=>cases h
theorem fits_nil {xs:List Value}(h:fits [] xs=true):xs=[]:=by cases xs<;>simp_all [fits]
theorem u51 :Tryz.prog.underlying 51=some (.struct (Tryz.prog.fieldsOf 51)):=by kernel_rfl
theorem u65 :Tryz.prog.underlying 65=some (.struct (Tryz.prog.fieldsOf 65)):=by kernel_rfl
theorem g51 :Tryz.prog.eqGuardType Tryz.prog.depth 51=false:=by kernel_rfl
theorem g65 :Tryz.prog.eqGuardType Tryz.prog.depth 65=false:=by kernel_rfl
theorem h51 :Tryz.prog.stoodInHeld 51=false:=by kernel_rfl
theorem h65 :Tryz.prog.stoodInHeld 65=false:=by kernel_rfl
theorem f51 :(Tryz.prog.fieldsOf 51).toList.map (fun f=>(f.name== "_",f.offset,f.type))=[(false,0,9),(false,1,9)]:=by kernel_rfl
theorem f65 :(Tryz.prog.fieldsOf 65).toList.map (fun f=>(f.name== "_",f.offset,f.type))=[(false,0,36),(false,1,9),(false,2,9)]:=by kernel_rfl
theorem u9 :Tryz.prog.underlying 9=some .string:=by kernel_rfl
theorem u36 :Tryz.prog.underlying 36=some (.int .u64):=by kernel_rfl
theorem part_str {xs:Array Value}{j:Nat}{s:ByteArray}{w}(h:xs[j]? =some (.string s)):(part 9 xs j).run Tryz.prog w= .ok (.string s) w:=by
 simp[part,isAgg,run_underlying u9,h]
theorem part_int {xs:Array Value}{j:Nat}{s:Int}{w}(h:xs[j]? =some (.int .u64 s)):(part 36 xs j).run Tryz.prog w= .ok (.int .u64 s) w:=by
 simp[part,isAgg,run_underlying u36,h]
theorem eqf_step {d:Nat}{xs ys:Array Value}{f:Field}{fs:List Field}{a b:Value}{r s:Bool}{w}(hn:(f.name== "_")=false)(ha:(part f.type xs f.offset).run Tryz.prog w= .ok a w)(hb:(part f.type ys f.offset).run Tryz.prog w= .ok b w)
  (he:(Op.equalIn d f.type a b).run Tryz.prog w= .ok r w) (hr:(Op.eqFields d xs ys fs).run Tryz.prog w= .ok s w):(Op.eqFields d xs ys (f::fs)).run Tryz.prog w= .ok (r&&s) w:=by
 have hn':f.name≠ "_" :=by simpa using hn
 rw[Op.eqFields]
 simp only[if_pos hn',Sem.run_bind,ha,hb,he,Result.andThen_ok]
 cases r
 ·simp
 ·simpa using hr
theorem eqf_none {d:Nat}{xs ys:Array Value}{w}:(Op.eqFields d xs ys []).run Tryz.prog w= .ok true w:=by simp[Op.eqFields]
theorem eqs_ok :EqOk Tryz.prog TT:=by
 intro t l fs xs ys hl hin hx hy x y w
 have ht:t=51\/t=65:=by
  have:=(hasNat_iff TT.eq t).1 hin
  simp only[TT,List.mem_cons,List.not_mem_nil,or_false]at this
  exact this
 rcases ht with rfl|rfl
 ·have:Go.Tr.look TT.td 51=some td51:=by kernel_rfl
  rw[this]at hl
  simp only[td51,Option.some.injEq,TD.st.injEq]at hl
  obtain⟨rfl,_⟩:=hl
  obtain⟨a,r1,rfl,hx1⟩:=fits_str hx
  obtain⟨b,r2,rfl,hx2⟩:=fits_str hx1
  obtain rfl:=fits_nil hx2
  obtain⟨c,r3,rfl,hy1⟩:=fits_str hy
  obtain⟨d,r4,rfl,hy2⟩:=fits_str hy1
  obtain rfl:=fits_nil hy2
  rw[Sem.run_bind,run_eqGuard_agg w .neq 51 x y _ _ g51,Result.andThen_ok,run_neq_struct,run_equalIn_struct w 9999 51 _ _ u51 h51]
  have h:=f51
  generalize(Tryz.prog.fieldsOf 51).toList=fl at h
  rcases fl with _|⟨f,_|⟨g,_|⟨k,r⟩⟩⟩
  ·simp at h
  ·simp at h
  ·simp only[List.map_cons,List.map_nil,List.cons.injEq,Prod.mk.injEq,and_true]at h
   obtain⟨⟨h1,h2,h3⟩,h4,h5,h6⟩:=h
   rw[eqf_step h1 (by rw[h3,h2];exact part_str rfl) (by rw[h3,h2];exact part_str rfl) (by rw[h3];exact run_equalIn_string w 9998 9 _ _ u9)
    (eqf_step h4 (by rw[h6,h5];exact part_str rfl) (by rw[h6,h5];exact part_str rfl) (by rw[h6];exact run_equalIn_string w 9998 9 _ _ u9) eqf_none)]
   rfl
  ·simp at h
 ·have:Go.Tr.look TT.td 65=some td65:=by kernel_rfl
  rw[this]at hl
  simp only[td65,Option.some.injEq,TD.st.injEq]at hl
  obtain⟨rfl,_⟩:=hl
  obtain⟨a,r1,rfl,hx1⟩:=fits_int hx
  obtain⟨b,r2,rfl,hx2⟩:=fits_str hx1
  obtain⟨b',r3,rfl,hx3⟩:=fits_str hx2
  obtain rfl:=fits_nil hx3
  obtain⟨c,r4,rfl,hy1⟩:=fits_int hy
  obtain⟨d,r5,rfl,hy2⟩:=fits_str hy1
  obtain⟨d',r6,rfl,hy3⟩:=fits_str hy2
  obtain rfl:=fits_nil hy3
  rw[Sem.run_bind,run_eqGuard_agg w .neq 65 x y _ _ g65,Result.andThen_ok,run_neq_struct,run_equalIn_struct w 9999 65 _ _ u65 h65]
  have h:=f65
  generalize(Tryz.prog.fieldsOf 65).toList=fl at h
  rcases fl with _|⟨f,_|⟨g,_|⟨k,_|⟨k',r⟩⟩⟩⟩
  ·simp at h
  ·simp at h
  ·simp at h
  ·simp only[List.map_cons,List.map_nil,List.cons.injEq,Prod.mk.injEq,and_true]at h
   obtain⟨⟨h1,h2,h3⟩,⟨h4,h5,h6⟩,h7,h8,h9⟩:=h
   rw[eqf_step h1 (by rw[h3,h2];exact part_int rfl) (by rw[h3,h2];exact part_int rfl) (by rw[h3];exact run_equalIn_int w 9998 36 .u64 .u64 _ _ u36)
    (eqf_step h4 (by rw [h6, h5]; exact part_str rfl) (by rw [h6, h5]; exact part_str rfl) (by rw [h6]; exact run_equalIn_string w 9998 9 _ _ u9)
     (eqf_step h7 (by rw[h9,h8];exact part_str rfl) (by rw[h9,h8];exact part_str rfl) (by rw[h9];exact run_equalIn_string w 9998 9 _ _ u9) eqf_none))]
   rfl
  ·simp at h
theorem CT :Ctx Tryz.prog TT:=⟨TT_ok,eqs_ok⟩
theorem mixed :Tryz.prog.follows .mixedOrders=true:=Checked.mixed Tryz.checked
theorem ctr {f:Nat}{fn:Func}(hf:Tryz.prog.funcs[f]? =some fn)(an:Ann){args:List Value}(hok:okF fn args.length=true){R:List Ty}{K:tden R->WP}{w}{X:Prop}(e:trF Tryz.prog TT fn an args R K w=X)(h:X):CallF Tryz.prog f args R K w:=
 callF_of_trF CT mixed hf an hok (e▸h)
theorem ctrC {f:Nat}{fn:Func}(hf:Tryz.prog.funcs[f]? =some fn)(an:Ann){args:List Value}(hok:okF fn args.length=true){R:List Ty}{K:tden R->WP}{w}{X:Prop}(e:trF Tryz.prog TT fn an args R K w=X)(h:X):Calls Tryz.prog f args.toArray w (RetP R fun x w'=>K x w'/\Ext w w'):=
 calls_of_trF CT mixed hf an hok (e▸h)
abbrev tP :Ty:=.one .ptr
abbrev tS :Ty:=.one .sl
abbrev tB :Ty:=.one .bool
abbrev tT :Ty:=.one .str
abbrev tI :Ty:=.one .ifc
abbrev tF :Ty:=.one .fn
abbrev tA :Ty:=.one .adr
abbrev ti64 :Ty:=.one (.int .i64)
abbrev tu64 :Ty:=.one (.int .u64)
abbrev tu32 :Ty:=.one (.int .u32)
abbrev tu8 :Ty:=.one (.int .u8)
abbrev ti8 :Ty:=.one (.int .i8)
abbrev LdF (x:Option Addr)(k:Nat)(t:Ty)(K:t.den->WP)(w:World):Prop:= ∃p,x=some p/\Ld t (p.add k) K w
abbrev StF (x:Option Addr)(k:Nat)(v:Value)(K:WP)(w:World):Prop:= ∃p,x=some p/\St (p.add k) v K w
def auGo (js ls:List (Nat×List (Nat×Ty))):Code->Nat->Ann×Nat
 | c, k =>
  let r:Ann×Nat:=match c with
   | .seq a b=>let x:=auGo js ls a (k+1);let y:=auGo js ls b x.2;(.seq x.1 y.1,y.2)
   | .cond _ a b=>let x:=auGo js ls a (k+1);let y:=auGo js ls b x.2;(.cond x.1 y.1,y.2)
   | .block _ a=>let x:=auGo js ls a (k+1);(.block x.1,x.2)
   | .loop a=>let x:=auGo js ls a (k+1);(.loop ((Go.Tr.look ls k).getD []) x.1,x.2)
   |_=>(.leaf,k+1)
  match Go.Tr.look js k with
  |some s=>(.join s r.1,r.2)
  |none=>r
def au (fn:Func)(js ls:List (Nat×List (Nat×Ty))):Ann:=match fn.body with|some c=>(auGo js ls c 0).1|none=>.leaf
end Go.Proofs.YtpkoddfamelnhaaGreatDoor
