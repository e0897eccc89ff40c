import PyProof.Rows.All
import Wide.All
import OpenK.AllK
import Wide.FinOn
import Lean
import PySem.Challenge.RW_wr0050_01
set_option Elab.async false
set_option maxRecDepth 100000
section
set_option maxRecDepth 100000
namespace Wr50
open PySem PySem.W PySem.Calls PyProof.Rows

/-! the text's own parts, taken out of the row's program and laid open once -/
noncomputable def stAt (i : Nat) : Stmt := (PySem.Challenge.pw_wr0050_01.main.body[i]?).getD (.Pass ⟨0, 0, 0, 0⟩)
noncomputable def fnParams : Stmt → Arguments
  | .FunctionDef _ a _ _ _ _ _ _ _ _ => a
  | _ => ⟨[], [], none, [], [], none, []⟩
noncomputable def fnBody : Stmt → List Stmt
  | .FunctionDef _ _ b _ _ _ _ _ _ _ => b
  | _ => []
noncomputable def fnScope : Stmt → Scope
  | .FunctionDef _ _ _ _ _ _ sc _ _ _ => sc
  | _ => PySem.Challenge.pw_wr0050_01.main.scope
@[reducible] noncomputable def cap {α : Type} {a b : α} (h : b = a) : { x : α // x = a } := ⟨b, h⟩
@[reducible] noncomputable def p2 : { l : Arguments // l = fnParams (stAt 2) } := by
  apply cap
  conv => rhs; whnf
@[reducible] noncomputable def b2 : { l : List Stmt // l = fnBody (stAt 2) } := by
  apply cap
  conv => rhs; whnf
@[reducible] noncomputable def s2 : { l : Scope // l = fnScope (stAt 2) } := by
  apply cap
  conv => rhs; whnf
@[reducible] noncomputable def p4 : { l : Arguments // l = fnParams (stAt 4) } := by
  apply cap
  conv => rhs; whnf
@[reducible] noncomputable def b4 : { l : List Stmt // l = fnBody (stAt 4) } := by
  apply cap
  conv => rhs; whnf
@[reducible] noncomputable def s4 : { l : Scope // l = fnScope (stAt 4) } := by
  apply cap
  conv => rhs; whnf
@[reducible] noncomputable def p7 : { l : Arguments // l = fnParams (stAt 7) } := by
  apply cap
  conv => rhs; whnf
@[reducible] noncomputable def b7 : { l : List Stmt // l = fnBody (stAt 7) } := by
  apply cap
  conv => rhs; whnf
@[reducible] noncomputable def s7 : { l : Scope // l = fnScope (stAt 7) } := by
  apply cap
  conv => rhs; whnf
@[reducible] noncomputable def p12 : { l : Arguments // l = fnParams (stAt 12) } := by
  apply cap
  conv => rhs; whnf
@[reducible] noncomputable def b12 : { l : List Stmt // l = fnBody (stAt 12) } := by
  apply cap
  conv => rhs; whnf
@[reducible] noncomputable def s12 : { l : Scope // l = fnScope (stAt 12) } := by
  apply cap
  conv => rhs; whnf
@[reducible] noncomputable def p13 : { l : Arguments // l = fnParams (stAt 13) } := by
  apply cap
  conv => rhs; whnf
@[reducible] noncomputable def b13 : { l : List Stmt // l = fnBody (stAt 13) } := by
  apply cap
  conv => rhs; whnf
@[reducible] noncomputable def s13 : { l : Scope // l = fnScope (stAt 13) } := by
  apply cap
  conv => rhs; whnf
@[reducible] noncomputable def p15 : { l : Arguments // l = fnParams (stAt 15) } := by
  apply cap
  conv => rhs; whnf
@[reducible] noncomputable def b15 : { l : List Stmt // l = fnBody (stAt 15) } := by
  apply cap
  conv => rhs; whnf
@[reducible] noncomputable def s15 : { l : Scope // l = fnScope (stAt 15) } := by
  apply cap
  conv => rhs; whnf
@[reducible] noncomputable def p16 : { l : Arguments // l = fnParams (stAt 16) } := by
  apply cap
  conv => rhs; whnf
@[reducible] noncomputable def b16 : { l : List Stmt // l = fnBody (stAt 16) } := by
  apply cap
  conv => rhs; whnf
@[reducible] noncomputable def s16 : { l : Scope // l = fnScope (stAt 16) } := by
  apply cap
  conv => rhs; whnf
@[reducible] noncomputable def p17 : { l : Arguments // l = fnParams (stAt 17) } := by
  apply cap
  conv => rhs; whnf
@[reducible] noncomputable def b17 : { l : List Stmt // l = fnBody (stAt 17) } := by
  apply cap
  conv => rhs; whnf
@[reducible] noncomputable def s17 : { l : Scope // l = fnScope (stAt 17) } := by
  apply cap
  conv => rhs; whnf
@[reducible] noncomputable def p18 : { l : Arguments // l = fnParams (stAt 18) } := by
  apply cap
  conv => rhs; whnf
@[reducible] noncomputable def b18 : { l : List Stmt // l = fnBody (stAt 18) } := by
  apply cap
  conv => rhs; whnf
@[reducible] noncomputable def s18 : { l : Scope // l = fnScope (stAt 18) } := by
  apply cap
  conv => rhs; whnf
@[reducible] noncomputable def p19 : { l : Arguments // l = fnParams (stAt 19) } := by
  apply cap
  conv => rhs; whnf
@[reducible] noncomputable def b19 : { l : List Stmt // l = fnBody (stAt 19) } := by
  apply cap
  conv => rhs; whnf
@[reducible] noncomputable def s19 : { l : Scope // l = fnScope (stAt 19) } := by
  apply cap
  conv => rhs; whnf
@[reducible] noncomputable def p20 : { l : Arguments // l = fnParams (stAt 20) } := by
  apply cap
  conv => rhs; whnf
@[reducible] noncomputable def b20 : { l : List Stmt // l = fnBody (stAt 20) } := by
  apply cap
  conv => rhs; whnf
@[reducible] noncomputable def s20 : { l : Scope // l = fnScope (stAt 20) } := by
  apply cap
  conv => rhs; whnf
@[reducible] noncomputable def p22 : { l : Arguments // l = fnParams (stAt 22) } := by
  apply cap
  conv => rhs; whnf
@[reducible] noncomputable def b22 : { l : List Stmt // l = fnBody (stAt 22) } := by
  apply cap
  conv => rhs; whnf
@[reducible] noncomputable def s22 : { l : Scope // l = fnScope (stAt 22) } := by
  apply cap
  conv => rhs; whnf
@[reducible] noncomputable def p23 : { l : Arguments // l = fnParams (stAt 23) } := by
  apply cap
  conv => rhs; whnf
@[reducible] noncomputable def b23 : { l : List Stmt // l = fnBody (stAt 23) } := by
  apply cap
  conv => rhs; whnf
@[reducible] noncomputable def s23 : { l : Scope // l = fnScope (stAt 23) } := by
  apply cap
  conv => rhs; whnf
@[reducible] noncomputable def p24 : { l : Arguments // l = fnParams (stAt 24) } := by
  apply cap
  conv => rhs; whnf
@[reducible] noncomputable def b24 : { l : List Stmt // l = fnBody (stAt 24) } := by
  apply cap
  conv => rhs; whnf
@[reducible] noncomputable def s24 : { l : Scope // l = fnScope (stAt 24) } := by
  apply cap
  conv => rhs; whnf
@[reducible] noncomputable def p25 : { l : Arguments // l = fnParams (stAt 25) } := by
  apply cap
  conv => rhs; whnf
@[reducible] noncomputable def b25 : { l : List Stmt // l = fnBody (stAt 25) } := by
  apply cap
  conv => rhs; whnf
@[reducible] noncomputable def s25 : { l : Scope // l = fnScope (stAt 25) } := by
  apply cap
  conv => rhs; whnf
@[reducible] noncomputable def p26 : { l : Arguments // l = fnParams (stAt 26) } := by
  apply cap
  conv => rhs; whnf
@[reducible] noncomputable def b26 : { l : List Stmt // l = fnBody (stAt 26) } := by
  apply cap
  conv => rhs; whnf
@[reducible] noncomputable def s26 : { l : Scope // l = fnScope (stAt 26) } := by
  apply cap
  conv => rhs; whnf
end Wr50
end
section
set_option maxRecDepth 100000
namespace Wr50
open PySem PySem.W PySem.Calls PyProof.Rows

/-! the table's entries, by the text's own display and the order in which the top makes them -/
noncomputable def dictKeys : Stmt → List (Option Expr)
  | .Assign _ (.Dict ks _ _) _ => ks
  | _ => []
noncomputable def dictVals : Stmt → List Expr
  | .Assign _ (.Dict _ vs _) _ => vs
  | _ => []
noncomputable def kvOf : Option Expr × Expr → Option (Int × PySem.Str)
  | (some (.Constant (.int k) _ _), .Constant (.str s) _ _) => some (k, s)
  | _ => none
noncomputable def tabKV : List (Int × PySem.Str) := ((dictKeys (stAt 3)).zip (dictVals (stAt 3))).filterMap kvOf
noncomputable def ents (t step : Nat) : List (Int × PySem.Str) → List DictEntry
  | [] => []
  | (k, s) :: r => ⟨hashInt k, .int k t, .str s (t + 1)⟩ :: ents (t + step) step r
noncomputable def b3es : Array DictEntry := (ents 256 3 (tabKV.take 646) ++ ents 2194 2 (tabKV.drop 646)).toArray

/-- the part of the heap behind the top that the walk needs -/
noncomputable def KF (P : PySem.Params) : Frag :=
  (nat_lit 2, (PySem.Obj.mk PySem.Value.none none (PySem.Data.dict #[(PySem.DictEntry.mk (PySem.PyData.keyHash P (PySem.Str.ofString "type.__subclasses__.Exception.0")) (PySem.Value.str (PySem.Str.ofString "type.__subclasses__.Exception.0") 2249) (PySem.Value.int 95 0)), (PySem.DictEntry.mk (PySem.PyData.keyHash P (PySem.Str.ofString "type.__subclasses__.Exception.n")) (PySem.Value.str (PySem.Str.ofString "type.__subclasses__.Exception.n") 2250) (PySem.Value.int 1 0))] 2) #[])) ::
  (nat_lit 3, (PySem.Obj.mk (PySem.Value.type "dict") none (PySem.Data.dict #[(PySem.DictEntry.mk (PySem.PyData.keyHash P (PySem.Str.ofString "__name__")) (PySem.Value.str (PySem.Str.ofString "__name__") 165) (PySem.Value.str (PySem.Str.ofString "law_wr0050_01") 2362)), (PySem.DictEntry.mk (PySem.PyData.keyHash P (PySem.Str.ofString "__doc__")) (PySem.Value.str (PySem.Str.ofString "__doc__") 166) PySem.Value.none), (PySem.DictEntry.mk (PySem.PyData.keyHash P (PySem.Str.ofString "__package__")) (PySem.Value.str (PySem.Str.ofString "__package__") 167) PySem.Value.none), (PySem.DictEntry.mk (PySem.PyData.keyHash P (PySem.Str.ofString "__loader__")) (PySem.Value.str (PySem.Str.ofString "__loader__") 168) (PySem.Value.builtin "__main__.__loader__#opaque")), (PySem.DictEntry.mk (PySem.PyData.keyHash P (PySem.Str.ofString "__spec__")) (PySem.Value.str (PySem.Str.ofString "__spec__") 169) PySem.Value.none), (PySem.DictEntry.mk (PySem.PyData.keyHash P (PySem.Str.ofString "__annotations__")) (PySem.Value.str (PySem.Str.ofString "__annotations__") 170) (PySem.Value.ref 6)), (PySem.DictEntry.mk (PySem.PyData.keyHash P (PySem.Str.ofString "__builtins__")) (PySem.Value.str (PySem.Str.ofString "__builtins__") 171) (PySem.Value.ref 4)), (PySem.DictEntry.mk (PySem.PyData.keyHash P (PySem.Str.ofString "__file__")) (PySem.Value.str (PySem.Str.ofString "__file__") 173) (PySem.Value.str (PySem.Str.ofString "/claim/cut.py") 172)), (PySem.DictEntry.mk (PySem.PyData.keyHash P (PySem.Str.ofString "__cached__")) (PySem.Value.str (PySem.Str.ofString "__cached__") 174) PySem.Value.none), (PySem.DictEntry.mk (PySem.PyData.keyHash P (PySem.Str.ofString "b1_set")) (PySem.Value.str (PySem.Str.ofString "b1_set") 248) (PySem.Value.ref 22)), (PySem.DictEntry.mk (PySem.PyData.keyHash P (PySem.Str.ofString "in_table_b1")) (PySem.Value.str (PySem.Str.ofString "in_table_b1") 255) (PySem.Value.ref 32)), (PySem.DictEntry.mk (PySem.PyData.keyHash P (PySem.Str.ofString "b3_exceptions")) (PySem.Value.str (PySem.Str.ofString "b3_exceptions") 2206) (PySem.Value.ref 33)), (PySem.DictEntry.mk (PySem.PyData.keyHash P (PySem.Str.ofString "map_table_b3")) (PySem.Value.str (PySem.Str.ofString "map_table_b3") 2214) (PySem.Value.ref 78)), (PySem.DictEntry.mk (PySem.PyData.keyHash P (PySem.Str.ofString "ELLIPSIS_MARKER")) (PySem.Value.str (PySem.Str.ofString "ELLIPSIS_MARKER") 2218) (PySem.Value.str (PySem.Str.ofString "...") 2217)), (PySem.DictEntry.mk (PySem.PyData.keyHash P (PySem.Str.ofString "_ellipsis_match")) (PySem.Value.str (PySem.Str.ofString "_ellipsis_match") 2230) (PySem.Value.ref 85)), (PySem.DictEntry.mk (PySem.PyData.keyHash P (PySem.Str.ofString "Error")) (PySem.Value.str (PySem.Str.ofString "Error") 2252) (PySem.Value.ref 95)), (PySem.DictEntry.mk (PySem.PyData.keyHash P (PySem.Str.ofString "error_reply")) (PySem.Value.str (PySem.Str.ofString "error_reply") 2268) (PySem.Value.ref 108)), (PySem.DictEntry.mk (PySem.PyData.keyHash P (PySem.Str.ofString "error_proto")) (PySem.Value.str (PySem.Str.ofString "error_proto") 2284) (PySem.Value.ref 120)), (PySem.DictEntry.mk (PySem.PyData.keyHash P (PySem.Str.ofString "parse229")) (PySem.Value.str (PySem.Str.ofString "parse229") 2297) (PySem.Value.ref 129)), (PySem.DictEntry.mk (PySem.PyData.keyHash P (PySem.Str.ofString "parse257")) (PySem.Value.str (PySem.Str.ofString "parse257") 2308) (PySem.Value.ref 136)), (PySem.DictEntry.mk (PySem.PyData.keyHash P (PySem.Str.ofString "mod")) (PySem.Value.str (PySem.Str.ofString "mod") 2318) (PySem.Value.ref 143)), (PySem.DictEntry.mk (PySem.PyData.keyHash P (PySem.Str.ofString "contains")) (PySem.Value.str (PySem.Str.ofString "contains") 2326) (PySem.Value.ref 150)), (PySem.DictEntry.mk (PySem.PyData.keyHash P (PySem.Str.ofString "delitem")) (PySem.Value.str (PySem.Str.ofString "delitem") 2334) (PySem.Value.ref 157)), (PySem.DictEntry.mk (PySem.PyData.keyHash P (PySem.Str.ofString "getitem")) (PySem.Value.str (PySem.Str.ofString "getitem") 2342) (PySem.Value.ref 164)), (PySem.DictEntry.mk (PySem.PyData.keyHash P (PySem.Str.ofString "indexOf")) (PySem.Value.str (PySem.Str.ofString "indexOf") 2352) (PySem.Value.ref 171)), (PySem.DictEntry.mk (PySem.PyData.keyHash P (PySem.Str.ofString "setitem")) (PySem.Value.str (PySem.Str.ofString "setitem") 2361) (PySem.Value.ref 178)), (PySem.DictEntry.mk (PySem.PyData.keyHash P (PySem.Str.ofString "_law_order")) (PySem.Value.str (PySem.Str.ofString "_law_order") 2373) (PySem.Value.ref 185)), (PySem.DictEntry.mk (PySem.PyData.keyHash P (PySem.Str.ofString "_law_dressed")) (PySem.Value.str (PySem.Str.ofString "_law_dressed") 2386) (PySem.Value.ref 192)), (PySem.DictEntry.mk (PySem.PyData.keyHash P (PySem.Str.ofString "_law_traded")) (PySem.Value.str (PySem.Str.ofString "_law_traded") 2401) (PySem.Value.ref 199)), (PySem.DictEntry.mk (PySem.PyData.keyHash P (PySem.Str.ofString "_law_bettered")) (PySem.Value.str (PySem.Str.ofString "_law_bettered") 2407) (PySem.Value.ref 204)), (PySem.DictEntry.mk (PySem.PyData.keyHash P (PySem.Str.ofString "law")) (PySem.Value.str (PySem.Str.ofString "law") 2413) (PySem.Value.ref 209))] 31) #[])) ::
  (nat_lit 22, (PySem.Obj.mk (PySem.Value.type "set") none (PySem.Data.set #[(65024, (PySem.Value.int 65024 205)), (65025, (PySem.Value.int 65025 206)), (65026, (PySem.Value.int 65026 207)), (65027, (PySem.Value.int 65027 208)), (65028, (PySem.Value.int 65028 209)), (65029, (PySem.Value.int 65029 210)), (6150, (PySem.Value.int 6150 191)), (65030, (PySem.Value.int 65030 211)), (65031, (PySem.Value.int 65031 212)), (65032, (PySem.Value.int 65032 213)), (65033, (PySem.Value.int 65033 214)), (6155, (PySem.Value.int 6155 192)), (6156, (PySem.Value.int 6156 193)), (6157, (PySem.Value.int 6157 194)), (8203, (PySem.Value.int 8203 195)), (8204, (PySem.Value.int 8204 196)), (8205, (PySem.Value.int 8205 197)), (65034, (PySem.Value.int 65034 215)), (65035, (PySem.Value.int 65035 216)), (65036, (PySem.Value.int 65036 217)), (65037, (PySem.Value.int 65037 218)), (65038, (PySem.Value.int 65038 219)), (65039, (PySem.Value.int 65039 220)), (173, (PySem.Value.int 173 189)), (847, (PySem.Value.int 847 190)), (8288, (PySem.Value.int 8288 198)), (65279, (PySem.Value.int 65279 199))] 29 (PySem.SetTable.mk 127 #[0, 1, 2, 3, 4, 5, 6, 7, 8, 9, 10, 11, 12, 13, 14, 15, 16, 17, 18, 19, 20, 21, 22, 45, 79, 96, 127] #[] 0 (!(PySem.Params.followText P "set-order")) 2 true)) #[])) ::
  (nat_lit 26, (PySem.Obj.mk (PySem.Value.type "tuple") none (PySem.Data.seq #[] 0) #[])) ::
  (nat_lit 28, (PySem.Obj.mk (PySem.Value.type "tuple") none (PySem.Data.seq #[(PySem.Value.str (PySem.Str.ofString "code") 252)] 0) #[])) ::
  (nat_lit 29, (PySem.Obj.mk (PySem.Value.type "tuple") none (PySem.Data.seq #[] 0) #[])) ::
  (nat_lit 31, (PySem.Obj.mk (PySem.Value.type "code") none (PySem.Data.fields #[(PySem.Value.str (PySem.Str.ofString "in_table_b1") 249), (PySem.Value.str (PySem.Str.ofString "in_table_b1") 250), (PySem.Value.str (PySem.Str.ofString "/claim/cut.py") 251), (PySem.Value.int 3 0), (PySem.Value.int 1 0), (PySem.Value.int 0 0), (PySem.Value.int 0 0), (PySem.Value.int 3 0), (PySem.Value.ref 26), (PySem.Value.bool true), (PySem.Value.int 181 0), (PySem.Value.ref 27), PySem.Value.none, (PySem.Value.ref 28), (PySem.Value.ref 29), (PySem.Value.ref 30), (PySem.Value.int 253 0), (PySem.Value.int 3 0), (PySem.Value.str (PySem.Str.ofString "/claim/cut.py") 254)]) #[])) ::
  (nat_lit 32, (PySem.Obj.mk (PySem.Value.type "function") none (PySem.Data.func (PySem.FuncData.mk (PySem.Str.ofString "in_table_b1") (PySem.Str.ofString "in_table_b1") p2.1 (PySem.FuncBody.stmts b2.1) s2.1 3 [] PySem.Value.none PySem.Value.none PySem.Value.none (PySem.Value.str (PySem.Str.ofString "cpy313.stringprep") 187) none (PySem.Value.ref 31) PySem.Value.none 0)) #[])) ::
  (nat_lit 33, (PySem.Obj.mk (PySem.Value.type "dict") none (PySem.Data.dict b3es 650) #[])) ::
  (nat_lit 72, (PySem.Obj.mk (PySem.Value.type "tuple") none (PySem.Data.seq #[] 0) #[])) ::
  (nat_lit 74, (PySem.Obj.mk (PySem.Value.type "tuple") none (PySem.Data.seq #[(PySem.Value.str (PySem.Str.ofString "code") 2210), (PySem.Value.str (PySem.Str.ofString "r") 2211)] 0) #[])) ::
  (nat_lit 75, (PySem.Obj.mk (PySem.Value.type "tuple") none (PySem.Data.seq #[] 0) #[])) ::
  (nat_lit 77, (PySem.Obj.mk (PySem.Value.type "code") none (PySem.Data.fields #[(PySem.Value.str (PySem.Str.ofString "map_table_b3") 2207), (PySem.Value.str (PySem.Str.ofString "map_table_b3") 2208), (PySem.Value.str (PySem.Str.ofString "/claim/cut.py") 2209), (PySem.Value.int 6 0), (PySem.Value.int 1 0), (PySem.Value.int 0 0), (PySem.Value.int 0 0), (PySem.Value.int 3 0), (PySem.Value.ref 72), (PySem.Value.bool true), (PySem.Value.int 181 0), (PySem.Value.ref 73), PySem.Value.none, (PySem.Value.ref 74), (PySem.Value.ref 75), (PySem.Value.ref 76), (PySem.Value.int 2212 0), (PySem.Value.int 6 0), (PySem.Value.str (PySem.Str.ofString "/claim/cut.py") 2213)]) #[])) ::
  (nat_lit 78, (PySem.Obj.mk (PySem.Value.type "function") none (PySem.Data.func (PySem.FuncData.mk (PySem.Str.ofString "map_table_b3") (PySem.Str.ofString "map_table_b3") p4.1 (PySem.FuncBody.stmts b4.1) s4.1 3 [] PySem.Value.none PySem.Value.none PySem.Value.none (PySem.Value.str (PySem.Str.ofString "cpy313.stringprep") 187) none (PySem.Value.ref 77) PySem.Value.none 0)) #[])) ::
  (nat_lit 79, (PySem.Obj.mk (PySem.Value.type "tuple") none (PySem.Data.seq #[] 0) #[])) ::
  (nat_lit 81, (PySem.Obj.mk (PySem.Value.type "tuple") none (PySem.Data.seq #[(PySem.Value.str (PySem.Str.ofString "want") 2222), (PySem.Value.str (PySem.Str.ofString "got") 2223), (PySem.Value.str (PySem.Str.ofString "ws") 2224), (PySem.Value.str (PySem.Str.ofString "startpos") 2225), (PySem.Value.str (PySem.Str.ofString "endpos") 2226), (PySem.Value.str (PySem.Str.ofString "w") 2227)] 0) #[])) ::
  (nat_lit 82, (PySem.Obj.mk (PySem.Value.type "tuple") none (PySem.Data.seq #[] 0) #[])) ::
  (nat_lit 84, (PySem.Obj.mk (PySem.Value.type "code") none (PySem.Data.fields #[(PySem.Value.str (PySem.Str.ofString "_ellipsis_match") 2219), (PySem.Value.str (PySem.Str.ofString "_ellipsis_match") 2220), (PySem.Value.str (PySem.Str.ofString "/claim/cut.py") 2221), (PySem.Value.int 13 0), (PySem.Value.int 2 0), (PySem.Value.int 0 0), (PySem.Value.int 0 0), (PySem.Value.int 3 0), (PySem.Value.ref 79), (PySem.Value.bool true), (PySem.Value.int 181 0), (PySem.Value.ref 80), PySem.Value.none, (PySem.Value.ref 81), (PySem.Value.ref 82), (PySem.Value.ref 83), (PySem.Value.int 2228 0), (PySem.Value.int 13 0), (PySem.Value.str (PySem.Str.ofString "/claim/cut.py") 2229)]) #[])) ::
  (nat_lit 85, (PySem.Obj.mk (PySem.Value.type "function") none (PySem.Data.func (PySem.FuncData.mk (PySem.Str.ofString "_ellipsis_match") (PySem.Str.ofString "_ellipsis_match") p7.1 (PySem.FuncBody.stmts b7.1) s7.1 3 [] PySem.Value.none PySem.Value.none PySem.Value.none (PySem.Value.str (PySem.Str.ofString "cpy313.doctest") 2215) none (PySem.Value.ref 84) PySem.Value.none 0)) #[])) ::
  (nat_lit 86, (PySem.Obj.mk (PySem.Value.type "tuple") none (PySem.Data.seq #[(PySem.Value.type "Exception")] 0) #[])) ::
  (nat_lit 93, (PySem.Obj.mk (PySem.Value.type "tuple") none (PySem.Data.seq #[] 0) #[])) ::
  (nat_lit 94, (PySem.Obj.mk (PySem.Value.type "dict") none (PySem.Data.dict #[(PySem.DictEntry.mk (PySem.PyData.keyHash P (PySem.Str.ofString "__module__")) (PySem.Value.str (PySem.Str.ofString "__module__") 2240) (PySem.Value.str (PySem.Str.ofString "cpy313.ftplib") 2231)), (PySem.DictEntry.mk (PySem.PyData.keyHash P (PySem.Str.ofString "__firstlineno__")) (PySem.Value.str (PySem.Str.ofString "__firstlineno__") 2244) (PySem.Value.int 42 2243)), (PySem.DictEntry.mk (PySem.PyData.keyHash P (PySem.Str.ofString "__static_attributes__")) (PySem.Value.str (PySem.Str.ofString "__static_attributes__") 2245) (PySem.Value.ref 93)), (PySem.DictEntry.mk (PySem.PyData.keyHash P (PySem.Str.ofString "__weakref__")) (PySem.Value.str (PySem.Str.ofString "__weakref__") 2247) (PySem.Value.ref 96)), (PySem.DictEntry.mk (PySem.PyData.keyHash P (PySem.Str.ofString "__doc__")) (PySem.Value.str (PySem.Str.ofString "__doc__") 2248) PySem.Value.none)] 3) #[])) ::
  (nat_lit 95, (PySem.Obj.mk (PySem.Value.type "type") none (PySem.Data.cls (PySem.ClassData.mk (PySem.Str.ofString "Error") [(PySem.Value.type "Exception")] [(PySem.Value.ref 95), (PySem.Value.type "Exception"), (PySem.Value.type "BaseException"), (PySem.Value.type "object")] 94 (PySem.Str.ofString "Error") true [] [(PySem.Value.ref 108), (PySem.Value.ref 120)] false none false)) #[(some (PySem.Value.ref 86)), none, (some (PySem.Value.str (PySem.Str.ofString "Error") 2233)), (some (PySem.Value.str (PySem.Str.ofString "Error") 2241)), (some (PySem.Value.builtin "Exception.__new__")), (some (PySem.Value.bool true))])) ::
  (nat_lit 96, (PySem.Obj.mk (PySem.Value.type "getset_descriptor") none (PySem.Data.fields #[(PySem.Value.str (PySem.Str.ofString "__weakref__") 2246), (PySem.Value.ref 95), (PySem.Value.builtin "ExceptionGroup.__weakref__"), PySem.Value.none]) #[])) ::
  (nat_lit 99, (PySem.Obj.mk (PySem.Value.type "tuple") none (PySem.Data.seq #[(PySem.Value.ref 95)] 0) #[])) ::
  (nat_lit 106, (PySem.Obj.mk (PySem.Value.type "tuple") none (PySem.Data.seq #[] 0) #[])) ::
  (nat_lit 107, (PySem.Obj.mk (PySem.Value.type "dict") none (PySem.Data.dict #[(PySem.DictEntry.mk (PySem.PyData.keyHash P (PySem.Str.ofString "__module__")) (PySem.Value.str (PySem.Str.ofString "__module__") 2260) (PySem.Value.str (PySem.Str.ofString "cpy313.ftplib") 2231)), (PySem.DictEntry.mk (PySem.PyData.keyHash P (PySem.Str.ofString "__firstlineno__")) (PySem.Value.str (PySem.Str.ofString "__firstlineno__") 2264) (PySem.Value.int 44 2263)), (PySem.DictEntry.mk (PySem.PyData.keyHash P (PySem.Str.ofString "__static_attributes__")) (PySem.Value.str (PySem.Str.ofString "__static_attributes__") 2265) (PySem.Value.ref 106)), (PySem.DictEntry.mk (PySem.PyData.keyHash P (PySem.Str.ofString "__doc__")) (PySem.Value.str (PySem.Str.ofString "__doc__") 2266) PySem.Value.none)] 2) #[])) ::
  (nat_lit 108, (PySem.Obj.mk (PySem.Value.type "type") none (PySem.Data.cls (PySem.ClassData.mk (PySem.Str.ofString "error_reply") [(PySem.Value.ref 95)] [(PySem.Value.ref 108), (PySem.Value.ref 95), (PySem.Value.type "Exception"), (PySem.Value.type "BaseException"), (PySem.Value.type "object")] 107 (PySem.Str.ofString "error_reply") true [] [] false none false)) #[(some (PySem.Value.ref 99)), none, (some (PySem.Value.str (PySem.Str.ofString "error_reply") 2253)), (some (PySem.Value.str (PySem.Str.ofString "error_reply") 2261)), (some (PySem.Value.builtin "Exception.__new__")), (some (PySem.Value.bool true))])) ::
  (nat_lit 111, (PySem.Obj.mk (PySem.Value.type "tuple") none (PySem.Data.seq #[(PySem.Value.ref 95)] 0) #[])) ::
  (nat_lit 118, (PySem.Obj.mk (PySem.Value.type "tuple") none (PySem.Data.seq #[] 0) #[])) ::
  (nat_lit 119, (PySem.Obj.mk (PySem.Value.type "dict") none (PySem.Data.dict #[(PySem.DictEntry.mk (PySem.PyData.keyHash P (PySem.Str.ofString "__module__")) (PySem.Value.str (PySem.Str.ofString "__module__") 2276) (PySem.Value.str (PySem.Str.ofString "cpy313.ftplib") 2231)), (PySem.DictEntry.mk (PySem.PyData.keyHash P (PySem.Str.ofString "__firstlineno__")) (PySem.Value.str (PySem.Str.ofString "__firstlineno__") 2280) (PySem.Value.int 46 2279)), (PySem.DictEntry.mk (PySem.PyData.keyHash P (PySem.Str.ofString "__static_attributes__")) (PySem.Value.str (PySem.Str.ofString "__static_attributes__") 2281) (PySem.Value.ref 118)), (PySem.DictEntry.mk (PySem.PyData.keyHash P (PySem.Str.ofString "__doc__")) (PySem.Value.str (PySem.Str.ofString "__doc__") 2282) PySem.Value.none)] 2) #[])) ::
  (nat_lit 120, (PySem.Obj.mk (PySem.Value.type "type") none (PySem.Data.cls (PySem.ClassData.mk (PySem.Str.ofString "error_proto") [(PySem.Value.ref 95)] [(PySem.Value.ref 120), (PySem.Value.ref 95), (PySem.Value.type "Exception"), (PySem.Value.type "BaseException"), (PySem.Value.type "object")] 119 (PySem.Str.ofString "error_proto") true [] [] false none false)) #[(some (PySem.Value.ref 111)), none, (some (PySem.Value.str (PySem.Str.ofString "error_proto") 2269)), (some (PySem.Value.str (PySem.Str.ofString "error_proto") 2277)), (some (PySem.Value.builtin "Exception.__new__")), (some (PySem.Value.bool true))])) ::
  (nat_lit 123, (PySem.Obj.mk (PySem.Value.type "tuple") none (PySem.Data.seq #[] 0) #[])) ::
  (nat_lit 125, (PySem.Obj.mk (PySem.Value.type "tuple") none (PySem.Data.seq #[(PySem.Value.str (PySem.Str.ofString "resp") 2288), (PySem.Value.str (PySem.Str.ofString "peer") 2289), (PySem.Value.str (PySem.Str.ofString "left") 2290), (PySem.Value.str (PySem.Str.ofString "right") 2291), (PySem.Value.str (PySem.Str.ofString "parts") 2292), (PySem.Value.str (PySem.Str.ofString "host") 2293), (PySem.Value.str (PySem.Str.ofString "port") 2294)] 0) #[])) ::
  (nat_lit 126, (PySem.Obj.mk (PySem.Value.type "tuple") none (PySem.Data.seq #[] 0) #[])) ::
  (nat_lit 128, (PySem.Obj.mk (PySem.Value.type "code") none (PySem.Data.fields #[(PySem.Value.str (PySem.Str.ofString "parse229") 2285), (PySem.Value.str (PySem.Str.ofString "parse229") 2286), (PySem.Value.str (PySem.Str.ofString "/claim/cut.py") 2287), (PySem.Value.int 48 0), (PySem.Value.int 2 0), (PySem.Value.int 0 0), (PySem.Value.int 0 0), (PySem.Value.int 3 0), (PySem.Value.ref 123), (PySem.Value.bool true), (PySem.Value.int 181 0), (PySem.Value.ref 124), PySem.Value.none, (PySem.Value.ref 125), (PySem.Value.ref 126), (PySem.Value.ref 127), (PySem.Value.int 2295 0), (PySem.Value.int 48 0), (PySem.Value.str (PySem.Str.ofString "/claim/cut.py") 2296)]) #[])) ::
  (nat_lit 129, (PySem.Obj.mk (PySem.Value.type "function") none (PySem.Data.func (PySem.FuncData.mk (PySem.Str.ofString "parse229") (PySem.Str.ofString "parse229") p12.1 (PySem.FuncBody.stmts b12.1) s12.1 3 [] PySem.Value.none PySem.Value.none PySem.Value.none (PySem.Value.str (PySem.Str.ofString "cpy313.ftplib") 2231) none (PySem.Value.ref 128) PySem.Value.none 0)) #[])) ::
  (nat_lit 130, (PySem.Obj.mk (PySem.Value.type "tuple") none (PySem.Data.seq #[] 0) #[])) ::
  (nat_lit 132, (PySem.Obj.mk (PySem.Value.type "tuple") none (PySem.Data.seq #[(PySem.Value.str (PySem.Str.ofString "resp") 2301), (PySem.Value.str (PySem.Str.ofString "dirname") 2302), (PySem.Value.str (PySem.Str.ofString "i") 2303), (PySem.Value.str (PySem.Str.ofString "n") 2304), (PySem.Value.str (PySem.Str.ofString "c") 2305)] 0) #[])) ::
  (nat_lit 133, (PySem.Obj.mk (PySem.Value.type "tuple") none (PySem.Data.seq #[] 0) #[])) ::
  (nat_lit 135, (PySem.Obj.mk (PySem.Value.type "code") none (PySem.Data.fields #[(PySem.Value.str (PySem.Str.ofString "parse257") 2298), (PySem.Value.str (PySem.Str.ofString "parse257") 2299), (PySem.Value.str (PySem.Str.ofString "/claim/cut.py") 2300), (PySem.Value.int 65 0), (PySem.Value.int 1 0), (PySem.Value.int 0 0), (PySem.Value.int 0 0), (PySem.Value.int 3 0), (PySem.Value.ref 130), (PySem.Value.bool true), (PySem.Value.int 181 0), (PySem.Value.ref 131), PySem.Value.none, (PySem.Value.ref 132), (PySem.Value.ref 133), (PySem.Value.ref 134), (PySem.Value.int 2306 0), (PySem.Value.int 65 0), (PySem.Value.str (PySem.Str.ofString "/claim/cut.py") 2307)]) #[])) ::
  (nat_lit 136, (PySem.Obj.mk (PySem.Value.type "function") none (PySem.Data.func (PySem.FuncData.mk (PySem.Str.ofString "parse257") (PySem.Str.ofString "parse257") p13.1 (PySem.FuncBody.stmts b13.1) s13.1 3 [] PySem.Value.none PySem.Value.none PySem.Value.none (PySem.Value.str (PySem.Str.ofString "cpy313.ftplib") 2231) none (PySem.Value.ref 135) PySem.Value.none 0)) #[])) ::
  (nat_lit 137, (PySem.Obj.mk (PySem.Value.type "tuple") none (PySem.Data.seq #[] 0) #[])) ::
  (nat_lit 139, (PySem.Obj.mk (PySem.Value.type "tuple") none (PySem.Data.seq #[(PySem.Value.str (PySem.Str.ofString "a") 2314), (PySem.Value.str (PySem.Str.ofString "b") 2315)] 0) #[])) ::
  (nat_lit 140, (PySem.Obj.mk (PySem.Value.type "tuple") none (PySem.Data.seq #[] 0) #[])) ::
  (nat_lit 142, (PySem.Obj.mk (PySem.Value.type "code") none (PySem.Data.fields #[(PySem.Value.str (PySem.Str.ofString "mod") 2311), (PySem.Value.str (PySem.Str.ofString "mod") 2312), (PySem.Value.str (PySem.Str.ofString "/claim/cut.py") 2313), (PySem.Value.int 83 0), (PySem.Value.int 2 0), (PySem.Value.int 0 0), (PySem.Value.int 0 0), (PySem.Value.int 3 0), (PySem.Value.ref 137), (PySem.Value.bool true), (PySem.Value.int 181 0), (PySem.Value.ref 138), PySem.Value.none, (PySem.Value.ref 139), (PySem.Value.ref 140), (PySem.Value.ref 141), (PySem.Value.int 2316 0), (PySem.Value.int 83 0), (PySem.Value.str (PySem.Str.ofString "/claim/cut.py") 2317)]) #[])) ::
  (nat_lit 143, (PySem.Obj.mk (PySem.Value.type "function") none (PySem.Data.func (PySem.FuncData.mk (PySem.Str.ofString "mod") (PySem.Str.ofString "mod") p15.1 (PySem.FuncBody.stmts b15.1) s15.1 3 [] PySem.Value.none PySem.Value.none PySem.Value.none (PySem.Value.str (PySem.Str.ofString "cpy313.operator") 2309) none (PySem.Value.ref 142) PySem.Value.none 0)) #[])) ::
  (nat_lit 144, (PySem.Obj.mk (PySem.Value.type "tuple") none (PySem.Data.seq #[] 0) #[])) ::
  (nat_lit 146, (PySem.Obj.mk (PySem.Value.type "tuple") none (PySem.Data.seq #[(PySem.Value.str (PySem.Str.ofString "a") 2322), (PySem.Value.str (PySem.Str.ofString "b") 2323)] 0) #[])) ::
  (nat_lit 147, (PySem.Obj.mk (PySem.Value.type "tuple") none (PySem.Data.seq #[] 0) #[])) ::
  (nat_lit 149, (PySem.Obj.mk (PySem.Value.type "code") none (PySem.Data.fields #[(PySem.Value.str (PySem.Str.ofString "contains") 2319), (PySem.Value.str (PySem.Str.ofString "contains") 2320), (PySem.Value.str (PySem.Str.ofString "/claim/cut.py") 2321), (PySem.Value.int 85 0), (PySem.Value.int 2 0), (PySem.Value.int 0 0), (PySem.Value.int 0 0), (PySem.Value.int 3 0), (PySem.Value.ref 144), (PySem.Value.bool true), (PySem.Value.int 181 0), (PySem.Value.ref 145), PySem.Value.none, (PySem.Value.ref 146), (PySem.Value.ref 147), (PySem.Value.ref 148), (PySem.Value.int 2324 0), (PySem.Value.int 85 0), (PySem.Value.str (PySem.Str.ofString "/claim/cut.py") 2325)]) #[])) ::
  (nat_lit 150, (PySem.Obj.mk (PySem.Value.type "function") none (PySem.Data.func (PySem.FuncData.mk (PySem.Str.ofString "contains") (PySem.Str.ofString "contains") p16.1 (PySem.FuncBody.stmts b16.1) s16.1 3 [] PySem.Value.none PySem.Value.none PySem.Value.none (PySem.Value.str (PySem.Str.ofString "cpy313.operator") 2309) none (PySem.Value.ref 149) PySem.Value.none 0)) #[])) ::
  (nat_lit 151, (PySem.Obj.mk (PySem.Value.type "tuple") none (PySem.Data.seq #[] 0) #[])) ::
  (nat_lit 153, (PySem.Obj.mk (PySem.Value.type "tuple") none (PySem.Data.seq #[(PySem.Value.str (PySem.Str.ofString "a") 2330), (PySem.Value.str (PySem.Str.ofString "b") 2331)] 0) #[])) ::
  (nat_lit 154, (PySem.Obj.mk (PySem.Value.type "tuple") none (PySem.Data.seq #[] 0) #[])) ::
  (nat_lit 156, (PySem.Obj.mk (PySem.Value.type "code") none (PySem.Data.fields #[(PySem.Value.str (PySem.Str.ofString "delitem") 2327), (PySem.Value.str (PySem.Str.ofString "delitem") 2328), (PySem.Value.str (PySem.Str.ofString "/claim/cut.py") 2329), (PySem.Value.int 87 0), (PySem.Value.int 2 0), (PySem.Value.int 0 0), (PySem.Value.int 0 0), (PySem.Value.int 3 0), (PySem.Value.ref 151), (PySem.Value.bool true), (PySem.Value.int 181 0), (PySem.Value.ref 152), PySem.Value.none, (PySem.Value.ref 153), (PySem.Value.ref 154), (PySem.Value.ref 155), (PySem.Value.int 2332 0), (PySem.Value.int 87 0), (PySem.Value.str (PySem.Str.ofString "/claim/cut.py") 2333)]) #[])) ::
  (nat_lit 157, (PySem.Obj.mk (PySem.Value.type "function") none (PySem.Data.func (PySem.FuncData.mk (PySem.Str.ofString "delitem") (PySem.Str.ofString "delitem") p17.1 (PySem.FuncBody.stmts b17.1) s17.1 3 [] PySem.Value.none PySem.Value.none PySem.Value.none (PySem.Value.str (PySem.Str.ofString "cpy313.operator") 2309) none (PySem.Value.ref 156) PySem.Value.none 0)) #[])) ::
  (nat_lit 158, (PySem.Obj.mk (PySem.Value.type "tuple") none (PySem.Data.seq #[] 0) #[])) ::
  (nat_lit 160, (PySem.Obj.mk (PySem.Value.type "tuple") none (PySem.Data.seq #[(PySem.Value.str (PySem.Str.ofString "a") 2338), (PySem.Value.str (PySem.Str.ofString "b") 2339)] 0) #[])) ::
  (nat_lit 161, (PySem.Obj.mk (PySem.Value.type "tuple") none (PySem.Data.seq #[] 0) #[])) ::
  (nat_lit 163, (PySem.Obj.mk (PySem.Value.type "code") none (PySem.Data.fields #[(PySem.Value.str (PySem.Str.ofString "getitem") 2335), (PySem.Value.str (PySem.Str.ofString "getitem") 2336), (PySem.Value.str (PySem.Str.ofString "/claim/cut.py") 2337), (PySem.Value.int 89 0), (PySem.Value.int 2 0), (PySem.Value.int 0 0), (PySem.Value.int 0 0), (PySem.Value.int 3 0), (PySem.Value.ref 158), (PySem.Value.bool true), (PySem.Value.int 181 0), (PySem.Value.ref 159), PySem.Value.none, (PySem.Value.ref 160), (PySem.Value.ref 161), (PySem.Value.ref 162), (PySem.Value.int 2340 0), (PySem.Value.int 89 0), (PySem.Value.str (PySem.Str.ofString "/claim/cut.py") 2341)]) #[])) ::
  (nat_lit 164, (PySem.Obj.mk (PySem.Value.type "function") none (PySem.Data.func (PySem.FuncData.mk (PySem.Str.ofString "getitem") (PySem.Str.ofString "getitem") p18.1 (PySem.FuncBody.stmts b18.1) s18.1 3 [] PySem.Value.none PySem.Value.none PySem.Value.none (PySem.Value.str (PySem.Str.ofString "cpy313.operator") 2309) none (PySem.Value.ref 163) PySem.Value.none 0)) #[])) ::
  (nat_lit 165, (PySem.Obj.mk (PySem.Value.type "tuple") none (PySem.Data.seq #[] 0) #[])) ::
  (nat_lit 167, (PySem.Obj.mk (PySem.Value.type "tuple") none (PySem.Data.seq #[(PySem.Value.str (PySem.Str.ofString "a") 2346), (PySem.Value.str (PySem.Str.ofString "b") 2347), (PySem.Value.str (PySem.Str.ofString "i") 2348), (PySem.Value.str (PySem.Str.ofString "j") 2349)] 0) #[])) ::
  (nat_lit 168, (PySem.Obj.mk (PySem.Value.type "tuple") none (PySem.Data.seq #[] 0) #[])) ::
  (nat_lit 170, (PySem.Obj.mk (PySem.Value.type "code") none (PySem.Data.fields #[(PySem.Value.str (PySem.Str.ofString "indexOf") 2343), (PySem.Value.str (PySem.Str.ofString "indexOf") 2344), (PySem.Value.str (PySem.Str.ofString "/claim/cut.py") 2345), (PySem.Value.int 91 0), (PySem.Value.int 2 0), (PySem.Value.int 0 0), (PySem.Value.int 0 0), (PySem.Value.int 3 0), (PySem.Value.ref 165), (PySem.Value.bool true), (PySem.Value.int 181 0), (PySem.Value.ref 166), PySem.Value.none, (PySem.Value.ref 167), (PySem.Value.ref 168), (PySem.Value.ref 169), (PySem.Value.int 2350 0), (PySem.Value.int 91 0), (PySem.Value.str (PySem.Str.ofString "/claim/cut.py") 2351)]) #[])) ::
  (nat_lit 171, (PySem.Obj.mk (PySem.Value.type "function") none (PySem.Data.func (PySem.FuncData.mk (PySem.Str.ofString "indexOf") (PySem.Str.ofString "indexOf") p19.1 (PySem.FuncBody.stmts b19.1) s19.1 3 [] PySem.Value.none PySem.Value.none PySem.Value.none (PySem.Value.str (PySem.Str.ofString "cpy313.operator") 2309) none (PySem.Value.ref 170) PySem.Value.none 0)) #[])) ::
  (nat_lit 172, (PySem.Obj.mk (PySem.Value.type "tuple") none (PySem.Data.seq #[] 0) #[])) ::
  (nat_lit 174, (PySem.Obj.mk (PySem.Value.type "tuple") none (PySem.Data.seq #[(PySem.Value.str (PySem.Str.ofString "a") 2356), (PySem.Value.str (PySem.Str.ofString "b") 2357), (PySem.Value.str (PySem.Str.ofString "c") 2358)] 0) #[])) ::
  (nat_lit 175, (PySem.Obj.mk (PySem.Value.type "tuple") none (PySem.Data.seq #[] 0) #[])) ::
  (nat_lit 177, (PySem.Obj.mk (PySem.Value.type "code") none (PySem.Data.fields #[(PySem.Value.str (PySem.Str.ofString "setitem") 2353), (PySem.Value.str (PySem.Str.ofString "setitem") 2354), (PySem.Value.str (PySem.Str.ofString "/claim/cut.py") 2355), (PySem.Value.int 97 0), (PySem.Value.int 3 0), (PySem.Value.int 0 0), (PySem.Value.int 0 0), (PySem.Value.int 3 0), (PySem.Value.ref 172), (PySem.Value.bool true), (PySem.Value.int 181 0), (PySem.Value.ref 173), PySem.Value.none, (PySem.Value.ref 174), (PySem.Value.ref 175), (PySem.Value.ref 176), (PySem.Value.int 2359 0), (PySem.Value.int 97 0), (PySem.Value.str (PySem.Str.ofString "/claim/cut.py") 2360)]) #[])) ::
  (nat_lit 178, (PySem.Obj.mk (PySem.Value.type "function") none (PySem.Data.func (PySem.FuncData.mk (PySem.Str.ofString "setitem") (PySem.Str.ofString "setitem") p20.1 (PySem.FuncBody.stmts b20.1) s20.1 3 [] PySem.Value.none PySem.Value.none PySem.Value.none (PySem.Value.str (PySem.Str.ofString "cpy313.operator") 2309) none (PySem.Value.ref 177) PySem.Value.none 0)) #[])) ::
  (nat_lit 179, (PySem.Obj.mk (PySem.Value.type "tuple") none (PySem.Data.seq #[] 0) #[])) ::
  (nat_lit 181, (PySem.Obj.mk (PySem.Value.type "tuple") none (PySem.Data.seq #[(PySem.Value.str (PySem.Str.ofString "n") 2367), (PySem.Value.str (PySem.Str.ofString "left") 2368), (PySem.Value.str (PySem.Str.ofString "order") 2369), (PySem.Value.str (PySem.Str.ofString "size") 2370)] 0) #[])) ::
  (nat_lit 182, (PySem.Obj.mk (PySem.Value.type "tuple") none (PySem.Data.seq #[] 0) #[])) ::
  (nat_lit 184, (PySem.Obj.mk (PySem.Value.type "code") none (PySem.Data.fields #[(PySem.Value.str (PySem.Str.ofString "_law_order") 2364), (PySem.Value.str (PySem.Str.ofString "_law_order") 2365), (PySem.Value.str (PySem.Str.ofString "/claim/cut.py") 2366), (PySem.Value.int 100 0), (PySem.Value.int 1 0), (PySem.Value.int 0 0), (PySem.Value.int 0 0), (PySem.Value.int 3 0), (PySem.Value.ref 179), (PySem.Value.bool true), (PySem.Value.int 181 0), (PySem.Value.ref 180), PySem.Value.none, (PySem.Value.ref 181), (PySem.Value.ref 182), (PySem.Value.ref 183), (PySem.Value.int 2371 0), (PySem.Value.int 100 0), (PySem.Value.str (PySem.Str.ofString "/claim/cut.py") 2372)]) #[])) ::
  (nat_lit 185, (PySem.Obj.mk (PySem.Value.type "function") none (PySem.Data.func (PySem.FuncData.mk (PySem.Str.ofString "_law_order") (PySem.Str.ofString "_law_order") p22.1 (PySem.FuncBody.stmts b22.1) s22.1 3 [] PySem.Value.none PySem.Value.none PySem.Value.none (PySem.Value.str (PySem.Str.ofString "law_wr0050_01") 2362) none (PySem.Value.ref 184) PySem.Value.none 0)) #[])) ::
  (nat_lit 186, (PySem.Obj.mk (PySem.Value.type "tuple") none (PySem.Data.seq #[] 0) #[])) ::
  (nat_lit 188, (PySem.Obj.mk (PySem.Value.type "tuple") none (PySem.Data.seq #[(PySem.Value.str (PySem.Str.ofString "order") 2377), (PySem.Value.str (PySem.Str.ofString "m") 2378), (PySem.Value.str (PySem.Str.ofString "hidden") 2379), (PySem.Value.str (PySem.Str.ofString "pieces") 2380), (PySem.Value.str (PySem.Str.ofString "k") 2381), (PySem.Value.str (PySem.Str.ofString "n") 2382), (PySem.Value.str (PySem.Str.ofString "ahead") 2383)] 0) #[])) ::
  (nat_lit 189, (PySem.Obj.mk (PySem.Value.type "tuple") none (PySem.Data.seq #[] 0) #[])) ::
  (nat_lit 191, (PySem.Obj.mk (PySem.Value.type "code") none (PySem.Data.fields #[(PySem.Value.str (PySem.Str.ofString "_law_dressed") 2374), (PySem.Value.str (PySem.Str.ofString "_law_dressed") 2375), (PySem.Value.str (PySem.Str.ofString "/claim/cut.py") 2376), (PySem.Value.int 108 0), (PySem.Value.int 2 0), (PySem.Value.int 0 0), (PySem.Value.int 0 0), (PySem.Value.int 3 0), (PySem.Value.ref 186), (PySem.Value.bool true), (PySem.Value.int 181 0), (PySem.Value.ref 187), PySem.Value.none, (PySem.Value.ref 188), (PySem.Value.ref 189), (PySem.Value.ref 190), (PySem.Value.int 2384 0), (PySem.Value.int 108 0), (PySem.Value.str (PySem.Str.ofString "/claim/cut.py") 2385)]) #[])) ::
  (nat_lit 192, (PySem.Obj.mk (PySem.Value.type "function") none (PySem.Data.func (PySem.FuncData.mk (PySem.Str.ofString "_law_dressed") (PySem.Str.ofString "_law_dressed") p23.1 (PySem.FuncBody.stmts b23.1) s23.1 3 [] PySem.Value.none PySem.Value.none PySem.Value.none (PySem.Value.str (PySem.Str.ofString "law_wr0050_01") 2362) none (PySem.Value.ref 191) PySem.Value.none 0)) #[])) ::
  (nat_lit 193, (PySem.Obj.mk (PySem.Value.type "tuple") none (PySem.Data.seq #[] 0) #[])) ::
  (nat_lit 195, (PySem.Obj.mk (PySem.Value.type "tuple") none (PySem.Data.seq #[(PySem.Value.str (PySem.Str.ofString "orders") 2390), (PySem.Value.str (PySem.Str.ofString "left") 2391), (PySem.Value.str (PySem.Str.ofString "gets") 2392), (PySem.Value.str (PySem.Str.ofString "path") 2393), (PySem.Value.str (PySem.Str.ofString "best") 2394), (PySem.Value.str (PySem.Str.ofString "order") 2395), (PySem.Value.str (PySem.Str.ofString "one") 2396), (PySem.Value.str (PySem.Str.ofString "ring") 2397), (PySem.Value.str (PySem.Str.ofString "k") 2398)] 0) #[])) ::
  (nat_lit 196, (PySem.Obj.mk (PySem.Value.type "tuple") none (PySem.Data.seq #[] 0) #[])) ::
  (nat_lit 198, (PySem.Obj.mk (PySem.Value.type "code") none (PySem.Data.fields #[(PySem.Value.str (PySem.Str.ofString "_law_traded") 2387), (PySem.Value.str (PySem.Str.ofString "_law_traded") 2388), (PySem.Value.str (PySem.Str.ofString "/claim/cut.py") 2389), (PySem.Value.int 125 0), (PySem.Value.int 1 0), (PySem.Value.int 0 0), (PySem.Value.int 0 0), (PySem.Value.int 3 0), (PySem.Value.ref 193), (PySem.Value.bool true), (PySem.Value.int 181 0), (PySem.Value.ref 194), PySem.Value.none, (PySem.Value.ref 195), (PySem.Value.ref 196), (PySem.Value.ref 197), (PySem.Value.int 2399 0), (PySem.Value.int 125 0), (PySem.Value.str (PySem.Str.ofString "/claim/cut.py") 2400)]) #[])) ::
  (nat_lit 199, (PySem.Obj.mk (PySem.Value.type "function") none (PySem.Data.func (PySem.FuncData.mk (PySem.Str.ofString "_law_traded") (PySem.Str.ofString "_law_traded") p24.1 (PySem.FuncBody.stmts b24.1) s24.1 3 [] PySem.Value.none PySem.Value.none PySem.Value.none (PySem.Value.str (PySem.Str.ofString "law_wr0050_01") 2362) none (PySem.Value.ref 198) PySem.Value.none 0)) #[])) ::
  (nat_lit 200, (PySem.Obj.mk (PySem.Value.type "tuple") none (PySem.Data.seq #[] 0) #[])) ::
  (nat_lit 203, (PySem.Obj.mk (PySem.Value.type "code") none (PySem.Data.fields #[(PySem.Value.str (PySem.Str.ofString "_law_bettered") 2402), (PySem.Value.str (PySem.Str.ofString "_law_bettered") 2403), (PySem.Value.str (PySem.Str.ofString "/claim/cut.py") 2404), (PySem.Value.int 145 0), (PySem.Value.int 2 0), (PySem.Value.int 0 0), (PySem.Value.int 0 0), (PySem.Value.int 3 0), (PySem.Value.ref 200), (PySem.Value.bool true), (PySem.Value.int 181 0), (PySem.Value.ref 201), PySem.Value.none, PySem.Value.none, PySem.Value.none, (PySem.Value.ref 202), (PySem.Value.int 2405 0), (PySem.Value.int 145 0), (PySem.Value.str (PySem.Str.ofString "/claim/cut.py") 2406)]) #[])) ::
  (nat_lit 204, (PySem.Obj.mk (PySem.Value.type "function") none (PySem.Data.func (PySem.FuncData.mk (PySem.Str.ofString "_law_bettered") (PySem.Str.ofString "_law_bettered") p25.1 (PySem.FuncBody.stmts b25.1) s25.1 3 [] PySem.Value.none PySem.Value.none PySem.Value.none (PySem.Value.str (PySem.Str.ofString "law_wr0050_01") 2362) none (PySem.Value.ref 203) PySem.Value.none 0)) #[])) ::
  (nat_lit 205, (PySem.Obj.mk (PySem.Value.type "tuple") none (PySem.Data.seq #[] 0) #[])) ::
  (nat_lit 208, (PySem.Obj.mk (PySem.Value.type "code") none (PySem.Data.fields #[(PySem.Value.str (PySem.Str.ofString "law") 2408), (PySem.Value.str (PySem.Str.ofString "law") 2409), (PySem.Value.str (PySem.Str.ofString "/claim/cut.py") 2410), (PySem.Value.int 154 0), (PySem.Value.int 1 0), (PySem.Value.int 0 0), (PySem.Value.int 0 0), (PySem.Value.int 3 0), (PySem.Value.ref 205), (PySem.Value.bool true), (PySem.Value.int 181 0), (PySem.Value.ref 206), PySem.Value.none, PySem.Value.none, PySem.Value.none, (PySem.Value.ref 207), (PySem.Value.int 2411 0), (PySem.Value.int 154 0), (PySem.Value.str (PySem.Str.ofString "/claim/cut.py") 2412)]) #[])) ::
  (nat_lit 209, (PySem.Obj.mk (PySem.Value.type "function") none (PySem.Data.func (PySem.FuncData.mk (PySem.Str.ofString "law") (PySem.Str.ofString "law") p26.1 (PySem.FuncBody.stmts b26.1) s26.1 3 [] PySem.Value.none PySem.Value.none PySem.Value.none (PySem.Value.str (PySem.Str.ofString "law_wr0050_01") 2362) none (PySem.Value.ref 208) PySem.Value.none 0)) #[])) ::
  []
end Wr50
end
section
set_option maxRecDepth 100000
namespace Wr50
open PySem PySem.W PySem.Calls PyProof.Rows
noncomputable def qv : Program := view PySem.Challenge.pw_wr0050_01 [1, 2, 3, 4, 6, 7, 9, 10, 11, 12, 13, 15, 16, 17, 18, 19, 20, 22, 23, 24, 25, 26]
noncomputable abbrev lo : List PySem.Str := [Str.ofString "b1_set", Str.ofString "b3_exceptions"]
noncomputable abbrev Claim (w : World) (mean : ExcName → Option Value) (mg mb : PySem.Str → Option Value) (f : Addr) (news : List (Addr × Obj)) (pre : Prop) (vs : List Value) (R : Tok → Value) : Prop :=
  CbClaim PySem.Challenge.rw_wr0050_01.prog w (KF w.params) qv lo mean mg mb f news [] pre vs R
end Wr50
end
section
set_option maxRecDepth 100000
set_option maxHeartbeats 4000000
namespace Wr50
open PySem PySem.W PySem.Calls PyProof.Rows

/-! the set and the table -/
noncomputable def b1s : List Int := [173, 847, 6150, 6155, 6156, 6157, 8203, 8204, 8205, 8288, 65279, 65024, 65025, 65026, 65027, 65028, 65029, 65030, 65031, 65032, 65033, 65034, 65035, 65036, 65037, 65038, 65039]
noncomputable def isB1 (c : Int) : Bool := b1s.contains c

noncomputable def keyOf : Value → Int
  | .int k _ => k
  | _ => 0
noncomputable def isKey : Value → Bool
  | .int _ _ => true
  | _ => false
theorem keys_mem {prog : Program} {w : World} {k : Int} : ∀ es : List (Int × Value), (es.all fun e => isKey e.2) = true → ((∃ e, e ∈ es ∧ (intKind prog w).is k e.2 = true) ↔ k ∈ es.map fun e => keyOf e.2)
  | [], _ => by simp
  | (h, v) :: r, hall => by
    rw [List.all_cons, Bool.and_eq_true] at hall
    have ih := keys_mem (prog := prog) (w := w) (k := k) r hall.2
    obtain ⟨n, t, rfl⟩ : ∃ n t, v = .int n t := by
      cases v with
      | int n t => exact ⟨n, t, rfl⟩
      | _ => cases hall.1
    have e2 : (intKind prog w).is k (.int n t) = (n == k) := by simp only [intKind, Value.isInt]
    rw [List.map_cons, List.mem_cons, ← ih]
    constructor
    · rintro ⟨e, he, hk⟩
      rcases List.mem_cons.mp he with rfl | he
      · rw [e2] at hk
        exact .inl (beq_iff_eq.mp hk).symm
      · exact .inr ⟨e, he, hk⟩
    · rintro (rfl | ⟨e, he, hk⟩)
      · exact ⟨_, .head _, e2.trans (beq_self_eq_true _)⟩
      · exact ⟨e, .tail _ he, hk⟩
theorem same_mem (a b : List Int) (h : (a.all fun x => b.contains x) = true) (k : Int) (hk : k ∈ a) : k ∈ b :=
  List.contains_iff_mem.mp (List.all_eq_true.mp h k hk)
theorem set_at {P : PySem.Params} {h : Heap} (X : (KF P).In h) (prog : Program) (w : World) : h.SetOf (intKind prog w) 22 isB1 27 := by
  have ho := X 22 _ (by with_unfolding_all rfl)
  refine ⟨_, _, _, _, ho, ⟨rfl, rfl, rfl⟩, rfl, ?_, ?_, by decide +kernel, by with_unfolding_all rfl, rfl⟩
  · intro e he
    simp only [List.mem_cons, List.not_mem_nil, or_false] at he
    rcases he with rfl | rfl | rfl | rfl | rfl | rfl | rfl | rfl | rfl | rfl | rfl | rfl | rfl | rfl | rfl | rfl | rfl | rfl | rfl | rfl | rfl | rfl | rfl | rfl | rfl | rfl | rfl <;>
      exact ⟨⟨_, intKind_is _ _ _ _, rfl⟩, rfl⟩
  · intro k
    rw [keys_mem _ (by decide +kernel)]
    exact (List.contains_iff_mem (as := b1s)).trans ⟨same_mem _ _ (by decide +kernel) k, same_mem _ _ (by decide +kernel) k⟩

/-! the table of B.3 -/
noncomputable def entOf (e : DictEntry) : Option (Int × PySem.Str) := match e.key, e.val with
  | .int k _, .str s _ => if e.hash = hashInt k then some (k, s) else none
  | _, _ => none
noncomputable def b3kv : List (Int × PySem.Str) := b3es.toList.filterMap entOf
noncomputable def b3 (k : Int) : Option PySem.Str := (b3kv.find? fun p => p.1 == k).map (·.2)
theorem b3_all : (b3es.toList.all fun e => (entOf e).isSome) = true := by decide +kernel
theorem ent_some {e : DictEntry} (h : (entOf e).isSome = true) : ∃ k tk s ts, e = ⟨hashInt k, .int k tk, .str s ts⟩ ∧ entOf e = some (k, s) := by
  obtain ⟨hh, key, val⟩ := e
  obtain ⟨k, tk, rfl⟩ : ∃ k tk, key = .int k tk := by
    cases key with
    | int k tk => exact ⟨k, tk, rfl⟩
    | _ => cases h
  obtain ⟨s, ts, rfl⟩ : ∃ s ts, val = .str s ts := by
    cases val with
    | str s ts => exact ⟨s, ts, rfl⟩
    | _ => cases h
  unfold entOf at h ⊢
  dsimp only at h ⊢
  by_cases q : hh = hashInt k
  · subst q; exact ⟨k, tk, s, ts, rfl, by simp⟩
  · simp [q] at h
theorem find_ent (prog : Program) (w : World) (k : Int) : ∀ l : List DictEntry, (l.all fun e => (entOf e).isSome) = true →
    match ((l.filterMap entOf).find? fun p => p.1 == k) with
    | some p => ∃ t, (l.find? fun e => (intKind prog w).is k e.key).map (·.val) = some (.str p.2 t)
    | none => (l.find? fun e => (intKind prog w).is k e.key).map (·.val) = none
  | [], _ => rfl
  | e :: r, h => by
    rw [List.all_cons, Bool.and_eq_true] at h
    obtain ⟨k', tk, s, ts, rfl, he⟩ := ent_some h.1
    have ih := find_ent prog w k r h.2
    rw [List.filterMap_cons_some he, List.find?_cons, List.find?_cons]
    have e2 : (intKind prog w).is k (.int k' tk) = (k' == k) := by
      simp only [intKind, Value.isInt]
    dsimp only
    rw [e2]
    cases q : (k' == k) with
    | true => exact ⟨ts, rfl⟩
    | false => exact ih
theorem tab_at {P : PySem.Params} {h : Heap} (X : (KF P).In h) (prog : Program) (w : World) :
    h.MapOf (intKind prog w) 33 (fun k => findBy (intKind prog w).is b3es k) := by
  have ho := X 33 _ (by with_unfolding_all rfl)
  refine ⟨_, _, _, ho, ⟨rfl, rfl, rfl⟩, rfl, ?_, fun _ => rfl⟩
  intro e he
  obtain ⟨k, tk, s, ts, rfl, _⟩ := ent_some (List.all_eq_true.mp b3_all e (Array.mem_toList_iff.mpr he))
  exact ⟨k, intKind_is _ _ _ _, rfl⟩
theorem b3_find (prog : Program) (w : World) (k : Int) : match b3 k with
    | some s => ∃ t, findBy (intKind prog w).is b3es k = some (.str s t)
    | none => findBy (intKind prog w).is b3es k = none := by
  have := find_ent prog w k b3es.toList b3_all
  unfold b3 b3kv findBy
  rw [← Array.find?_toList]
  revert this
  cases ((b3es.toList.filterMap entOf).find? fun p => p.1 == k) <;> exact id
end Wr50
end
section
set_option maxRecDepth 100000
set_option maxHeartbeats 4000000
namespace Wr50
open PySem PySem.W PySem.Calls PyProof.Rows



/-- the surroundings of a call: nothing handled, the frames written out -/
noncomputable abbrev ar (dp : Nat) (un : Nat) (gd : Option (List Code)) (frs : List Env) : Around := { handled := none, depth := dp, frames := some frs, guards := gd, units := un }

/-- what a call of a def of the text answers, from any heap that keeps the written part; all that stood before stands after -/
noncomputable def PC (w : World) (f : Addr) (vs : List Value) (dep un₀ : Nat) (pre : Heap → Prop) (post : Value → Heap → Heap → Prop) : Prop :=
  ∀ (dp un : Nat) (gd : Option (List Code)) (frs : List Env) (base : Heap) (mean : ExcName → Option Value) (mg mb : PySem.Str → Option Value) (s : Shared) (Q E : Value → Shared → Prop),
    Below (ar dp un gd frs) base frs s.heap → (KF w.params).In s.heap → Top qv lo mean mg mb s.heap → dp + dep < recursionLimit → un + un₀ < cLine → pre s.heap →
    (∀ v h' tk', (∀ b o, s.heap.get? b = some o → h'.get? b = some o) → post v s.heap h' → Q v { s with heap := h', toks := tk' }) →
    wpAny (model PySem.Challenge.rw_wr0050_01.prog w) (ar dp un gd frs) (call (.ref f) vs) Q E s

section
variable {prog : Program} {w : World} {A : Around} {s : Shared} {base : Heap} {frs : List Env} {K : Frag} {mean : ExcName → Option Value} {mg mb : PySem.Str → Option Value} {p : Program} {loose : List PySem.Str}
  {R : Result → Shared → Prop} {name qual : PySem.Str} {params : Arguments} {body : List Stmt} {scope : Scope} {dV kV doc pm cdv ct oc : Value} {an od : Option Addr} {osl : Array (Option Value)} {f : Addr} {args : Args} {binds : List (PySem.Str × Value)}
theorem enter_def (X : K.In s.heap) (T : Top p loose mean mg mb s.heap)
    (ho : K.lookup f = some ⟨oc, od, .func (fnOf name qual params body scope dV kV doc pm an cdv ct), osl⟩) (hcd : codeIn K cdv qual = true) (hroom : A.depth < recursionLimit)
    (hbind : BindsTo s (fnOf name qual params body scope dV kV doc pm an cdv ct) args binds) (hloc : ∀ y ∈ binds, scope.names.lookup y.1 = some .local)
    (h : ∀ L' h₁, Fr s.heap L' h₁ (fun y => binds.reverse.lookup y) → News s.heap L' h₁ [] →
      wpAny (model prog w) (A.deeper (envOf qual scope L' f cdv)) (execs body (envOf qual scope L' f cdv))
        (fun fl s' => R (.ok (.ret (match fl with | .ret v => v | _ => .none))) s')
        (fun e s' => wpAny (model prog w) (A.deeper (envOf qual scope L' f cdv)) (leaving (envOf qual scope L' f cdv) e) (fun _ s'' => R (.error e) s'') (fun e' s'' => R (.error e') s'') s')
        { s with heap := h₁, toks := s.toks + binds.length })
    (hco : scope.isCoroutine = false) (hgen : scope.isGenerator = false) (hk : scope.kind = .function)
    (hcell : ∀ x ∈ scope.names, x.2 ≠ .cell) : codeAny (model prog w) A (.call (.ref f) args) R s :=
  codeAny_call_def (fd := fnOf name qual params body scope dV kV doc pm an cdv ct) (body := body) (binds := binds) hroom (X _ _ ho) rfl T.nolimit (codeRec_of X hcd) rfl hbind hcell hloc
    (fun h₁ hns hk₁ => h s.heap.objs.size h₁ ⟨hns, hk₁, Nat.le_refl _⟩ News.nil) hco hgen hk
end

end Wr50
end
section
set_option maxRecDepth 100000
set_option maxHeartbeats 4000000
namespace Wr50
open PySem PySem.W PySem.Calls PyProof.Rows

theorem pc_mod (w : World) (x y : Int) (tx ty : Tok) (hy : 0 < y) : PC w 143 [.int x tx, .int y ty] 1 8 (fun _ => True) (fun v _ _ => ∃ t, v = .int (x % y) t) := by
  unfold PC; k_fill
  intro dp un gd frs base mean mg mb s Q E B X T hd hu hpre hret
  refine wpAny_call ?_
  refine' enter_def (binds := [("a", .int x tx), ("b", .int y ty)]) X T ?k6 ?k7 ?k8 ?k9 ?kB ?_ ?c2 ?c3 ?c4 ?c5
  case k6 => k_is
  case k7 => k_is
  case k8 => ktr_room
  case k9 => exact BindsTo.of_eq rfl
  case c5 => decide
  case kB => exact locs rfl
  case c2 => exact rfl
  case c3 => exact rfl
  case c4 => exact rfl
  intro L' h' F' N'
  try k_fold
  k_steps
  exact hret _ _ _ F'.keep ⟨_, by rw [Int.fmod_eq_emod_of_nonneg _ (by omega)]⟩

theorem pc_b1 (w : World) (c : Nat) (tx : Tok) : PC w 32 [.str ⟨#[c]⟩ tx] 1 8 (fun _ => True) (fun v _ _ => v = .bool (isB1 (c : Int))) := by
  unfold PC; k_fill
  intro dp un gd frs base mean mg mb s Q E B X T hd hu hpre hret
  refine wpAny_call ?_
  refine' enter_def (binds := [("code", .str ⟨#[c]⟩ tx)]) X T ?k6 ?k7 ?k8 ?k9 ?kB ?_ ?c2 ?c3 ?c4 ?c5
  case k6 => k_is
  case k7 => k_is
  case k8 => ktr_room
  case k9 => exact BindsTo.of_eq rfl
  case c5 => decide
  case kB => exact locs rfl
  case c2 => exact rfl
  case c3 => exact rfl
  case c4 => exact rfl
  intro L' h' F' N'
  try k_fold
  k_steps
  refine wpAny_inSet_of (intKind_is _ _ _ _) rfl (set_at (P := w.params) (X.keeps F'.keep) _ _) ?_
  exact hret _ _ _ F'.keep rfl

section
variable {prog : Program} {w : World} {K : Type} [DecidableEq K] {knd : KeyKind prog w K} {A : Around} {E : Value → Shared → Prop} {s : Shared} {a : Addr} {k : K} {key : Value} {f : K → Option Value}
theorem gm_get {pl : Sem Bool} {Q : Value × List Value → Shared → Prop} (M : s.heap.MapOf knd a f) (h : Q (.builtin "dict.get", [.ref a]) s) :
    wpAny (model prog w) A (getMethod (.ref a) "get" pl) Q E s :=
  getMethod_builtin M.typeIs PySem.F.plainAttrs_dict PySem.F.slot_dict_get PySem.F.type_dict_get M.noDict h
theorem call_get {Q : Value → Shared → Prop} (M : s.heap.MapOf knd a f) (hkey : knd.is k key = true) (lo : (a == sysModules) = false) (h : Q ((f k).getD .none) { s with toks := s.toks + 1 }) :
    wpAny (model prog w) A (call (.builtin "dict.get") [.ref a, key]) Q E s :=
  call_meetsIn PySem.F.slot_dict_get M.typeIs PySem.F.entry_dict_get (PySem.F.args_dict_get_2 _ _) (meets_dict_get knd a hkey lo) ⟨_, M, h⟩
end
/-- what map_table_b3 gives for one sign -/
noncomputable def b3of (c : Nat) : PySem.Str := (b3 (c : Int)).getD (Txt.lower ⟨#[c]⟩)
theorem fit_lower1 (c : Nat) : Builtin.Str.tooLong (Txt.lower ⟨#[c]⟩).length = false := fit_lower (x := ⟨#[c]⟩) (by show 1 ≤ 5592405; omega)
theorem pc_b3 (w : World) (c : Nat) (tx : Tok) : PC w 78 [.str ⟨#[c]⟩ tx] 1 8 (fun _ => True) (fun v _ _ => ∃ t, v = .str (b3of c) t) := by
  unfold PC; k_fill
  intro dp un gd frs base mean mg mb s Q E B X T hd hu hpre hret
  refine wpAny_call ?_
  refine' enter_def (binds := [("code", .str ⟨#[c]⟩ tx)]) X T ?k6 ?k7 ?k8 ?k9 ?kB ?_ ?c2 ?c3 ?c4 ?c5
  case k6 => k_is
  case k7 => k_is
  case k8 => ktr_room
  case k9 => exact BindsTo.of_eq rfl
  case c5 => decide
  case kB => exact locs rfl
  case c2 => exact rfl
  case c3 => exact rfl
  case c4 => exact rfl
  intro L' h' F' N'
  try k_fold
  k_steps
  refine gm_get (tab_at (P := w.params) (X.keeps F'.keep) _ _) ?_
  k_steps
  refine call_get (tab_at (P := w.params) (X.keeps F'.keep) _ _) (intKind_is _ _ _ _) rfl ?_
  have hb := b3_find PySem.Challenge.rw_wr0050_01.prog w (c : Int)
  have hr : b3of c = (b3 (c : Int)).getD (Txt.lower ⟨#[c]⟩) := rfl
  revert hb hr
  cases b3 (c : Int) with
  | some z =>
    rintro ⟨t, e⟩ hr
    rw [e]
    dsimp only [Option.getD] at hr ⊢
    k_steps
    exact hret _ _ _ (Fr.keep (by assumption)) ⟨_, by rw [hr]⟩
  | none =>
    intro e hr
    rw [e]
    dsimp only [Option.getD] at hr ⊢
    k_steps
    refine SC.lower (fit_lower1 c) ?_
    k_steps
    exact hret _ _ _ (Fr.keep (by assumption)) ⟨_, by rw [hr]⟩

end Wr50
end
section
set_option maxRecDepth 100000
set_option maxHeartbeats 4000000
namespace Wr50
open PySem PySem.W PySem.Calls PyProof.Rows

section
variable {w : World} {f : Addr} {vs : List Value} {d u : Nat} {pre : Heap → Prop} {post : Value → Heap → Heap → Prop} {dp un : Nat} {gd : Option (List Code)} {frs : List Env} {base g : Heap} {mean : ExcName → Option Value} {mg mb : PySem.Str → Option Value}
  {env : Env} {L : Addr} {m : PySem.Str → Option Value} {news : List (Addr × Obj)} {s : Shared} {Q E : Value → Shared → Prop}
/-- a contract at a call that stands in a def's own frame -/
theorem use (C : PC w f vs d u pre post) (B : Below (ar dp un gd frs) base frs g) (F : Fr g L s.heap m) (N : News g L s.heap news) (X : (KF w.params).In g) (T : Top qv lo mean mg mb g)
    (hf : env.frame = some L) (hk : env.scope.kind = .function) (hd : dp + 1 + d < recursionLimit) (hu : un + 3 + u < cLine) (hpre : pre s.heap)
    (h : ∀ v h' tk', Fr g L h' m → News g L h' news → (∀ b o, s.heap.get? b = some o → h'.get? b = some o) → post v s.heap h' → Q v { s with heap := h', toks := tk' }) :
    wpAny (model PySem.Challenge.rw_wr0050_01.prog w) ((ar dp un gd frs).deeper env) (call (.ref f) vs) Q E s :=
  C (dp + 1) (un + 3) gd (env :: frs) base mean mg mb s Q E (pushX B F hf hk) (X.keeps F.keep) (T.keeps F.keep) hd hu hpre fun v h' tk' k p => h v h' tk' (F.keeps k) (N.grown k) k p
end

/-! letters and orders -/
noncomputable abbrev ltrs : List Nat := [102, 105, 115, 116]
noncomputable def perms4 : List (List Nat) := [[102,105,115,116],[102,105,116,115],[102,115,105,116],[102,115,116,105],[102,116,105,115],[102,116,115,105],
  [105,102,115,116],[105,102,116,115],[105,115,102,116],[105,115,116,102],[105,116,102,115],[105,116,115,102],
  [115,102,105,116],[115,102,116,105],[115,105,102,116],[115,105,116,102],[115,116,102,105],[115,116,105,102],
  [116,102,105,115],[116,102,115,105],[116,105,102,115],[116,105,115,102],[116,115,102,105],[116,115,105,102]]
noncomputable abbrev st1 (c : Nat) : PySem.Str := ⟨#[c]⟩
noncomputable abbrev stL (o : List Nat) : PySem.Str := ⟨o.toArray⟩
noncomputable def dots (a b : Nat) : PySem.Str := ⟨#[46, 46, 46, a, 46, 46, 46, b, 46, 46, 46]⟩
noncomputable def bef (o : List Nat) (a b : Nat) : Bool := decide (o.idxOf a < o.idxOf b)
theorem dots_sub : ∀ a ∈ ltrs, ∀ b ∈ ltrs, (Builtin.Str.occurrences (dots a b) (Str.ofString "...") 0 (Str.length (dots a b)) 1).isEmpty = false := by decide +kernel
theorem dots_split : ∀ a ∈ ltrs, ∀ b ∈ ltrs, Txt.split (dots a b) (Str.ofString "...") = [⟨#[]⟩, st1 a, st1 b, ⟨#[]⟩] := by decide +kernel
end Wr50
end
section
set_option maxRecDepth 100000
set_option maxHeartbeats 4000000
namespace Wr50
open PySem PySem.W PySem.Calls PyProof.Rows

section
open Builtin Builtin.Str
noncomputable def find4 (x y : PySem.Str) (i j : Int) : Int := match occurrences x y (fromIndex x.length i) (min (fromIndex x.length j) x.length) 1 with | k :: _ => (k : Int) | [] => -1
theorem gives_find4 (x y : PySem.Str) (i j : Int) (t u v z : Tok) : Gives («str.find» ⟨[.str x t, .str y u, .int i v, .int j z], []⟩) (.int (find4 x y i j)) := by
  show Gives (match occurrences x y (fromIndex x.length i) (min (fromIndex x.length j) x.length) 1 with | k :: _ => retInt k | [] => (do rule "str.find.not-found"; retInt (-1))) _
  unfold find4
  cases occurrences x y (fromIndex x.length i) (min (fromIndex x.length j) x.length) 1 with
  | nil => exact .rule (.of_eq rfl)
  | cons k _ => exact .of_eq rfl
end
section
variable {prog : Program} {w : World} {A : Around} {E : Value → Shared → Prop} {s : Shared} {Q : Value → Shared → Prop}
theorem call_find4 {x y : PySem.Str} {i j : Int} {t u v z : Tok} (r : Int) (hr : find4 x y i j = r) (hq : Q (.int r s.toks) { s with toks := s.toks + 1 }) : wpAny (model prog w) A (call (.builtin "str.find") [.str x t, .str y u, .int i v, .int j z]) Q E s :=
  call_gives F.slot_str_find (typeIs_str _ _ _) F.entry_str_find (F.args_str_find_4 _ _ _ _) (gives_find4 x y i j t u v z) (hr ▸ hq)
theorem call_len {l : List Nat} {t : Tok} (n : Nat) (hn : l.length = n) (hs : n < 100000) (hq : Q (.int n (s.toks + 1)) { s with toks := s.toks + 1 + 1 }) : wpAny (model prog w) A (call (.builtin "len") [.str ⟨l.toArray⟩ t]) Q E s :=
  P.len_str (by subst hn; show ¬ ((l.length : Nat) : Int) ≥ 2 ^ 63; omega) (by subst hn; exact hq)
end
theorem ell1 : ∀ o ∈ perms4, find4 (stL o) ⟨#[]⟩ 0 4 = 0 := by decide +kernel
theorem ell2 : ∀ o ∈ perms4, ∀ a ∈ ltrs, find4 (stL o) (st1 a) 0 4 = (o.idxOf a : Int) := by decide +kernel
theorem ell3 : ∀ o ∈ perms4, ∀ a ∈ ltrs, ∀ b ∈ ltrs, find4 (stL o) (st1 b) ((o.idxOf a : Int) + 1) 4 = if bef o a b then (o.idxOf b : Int) else -1 := by decide +kernel
theorem ell4 : ∀ o ∈ perms4, ∀ b ∈ ltrs, find4 (stL o) ⟨#[]⟩ ((o.idxOf b : Int) + 1) 4 = (o.idxOf b : Int) + 1 := by decide +kernel
theorem pc_ell (w : World) (a b c0 c1 c2 c3 : Nat) (tx ty : Tok) (ha : a ∈ ltrs) (hb : b ∈ ltrs) (ho : [c0, c1, c2, c3] ∈ perms4) : PC w 85 [.str (dots a b) tx, .str ⟨#[c0, c1, c2, c3]⟩ ty] 1 8 (fun _ => True) (fun v _ _ => v = .bool (bef [c0, c1, c2, c3] a b)) := by
  unfold PC; k_fill
  intro dp un gd frs base mean mg mb s Q E B X T hd hu hpre hret
  refine wpAny_call ?_
  refine' enter_def (binds := [("want", .str (dots a b) tx), ("got", .str ⟨#[c0, c1, c2, c3]⟩ ty)]) X T ?k6 ?k7 ?k8 ?k9 ?kB ?_ ?c2 ?c3 ?c4 ?c5
  case k6 => k_is
  case k7 => k_is
  case k8 => ktr_room
  case k9 => exact BindsTo.of_eq rfl
  case c5 => decide
  case kB => exact locs rfl
  case c2 => exact rfl
  case c3 => exact rfl
  case c4 => exact rfl
  intro L' h' F' N'
  try k_fold
  k_steps
  · rename_i hx
    rw [dots_sub a ha b hb] at hx
    cases hx
  rename List.map _ _ = Txt.split _ _ => e9
  rw [dots_split a ha b hb] at e9
  kspl_open e9
  simp only [strValues, List.map_cons, List.map_nil] at *
  k_steps
  refine call_len 4 rfl (by decide) ?_
  k_steps
  refine call_find4 0 (ell1 _ ho) ?_
  k_steps
  refine call_len 0 rfl (by decide) ?_
  k_steps
  refine call_find4 _ (ell2 _ ho a ha) ?_
  k_steps
  have e3 := ell3 _ ho a ha b hb
  cases hbf : bef [c0, c1, c2, c3] a b with
  | false =>
    rw [hbf, if_neg (by decide)] at e3
    refine call_find4 _ e3 ?_
    k_steps
    show Q _ _
    exact hret _ _ _ (Fr.keep (by assumption)) (by rw [hbf])
  | true =>
    rw [hbf, if_pos rfl] at e3
    refine call_find4 _ e3 ?_
    k_steps
    refine call_find4 _ (ell4 _ ho b hb) ?_
    k_steps
    refine call_len 0 rfl (by decide) ?_
    k_steps
    show Q _ _
    exact hret _ _ _ (Fr.keep (by assumption)) (by rw [hbf])

end Wr50
end
section
set_option maxRecDepth 100000
set_option maxHeartbeats 4000000
namespace Wr50
open PySem PySem.W PySem.Calls PyProof.Rows

noncomputable abbrev fistS : PySem.Str := Str.ofString "fist"
/-- the letters that are left when one is taken, and the order that four draws name -/
noncomputable def ordL (r1 r2 r3 : Nat) : List Nat :=
  let l := ltrs
  let a := l.getD r1 0
  let l := l.eraseIdx r1
  let b := l.getD r2 0
  let l := l.eraseIdx r2
  let c := l.getD r3 0
  let l := l.eraseIdx r3
  [a, b, c, l.getD 0 0]
noncomputable def ordN (n : Nat) : List Nat := ordL (n % 4) (n / 4 % 3) (n / 12 % 2)
theorem fmN (n k : Nat) : (n : Int).fmod (k : Int) = ((n % k : Nat) : Int) := by
  rw [Int.fmod_eq_emod_of_nonneg _ (by omega)]; rfl
theorem fdN (n k : Nat) : (n : Int).fdiv (k : Int) = ((n / k : Nat) : Int) := by
  rw [Int.fdiv_eq_ediv_of_nonneg _ (by omega)]; rfl
theorem fits_small {i : Int} (h0 : 0 ≤ i) (h1 : i < 100000) : fitsSsize i = true := fitsSsize_of (N := 9223372036854775808) (by omega) (by omega) (Int.le_refl _)
end Wr50
end
section
set_option maxRecDepth 100000
set_option maxHeartbeats 4000000
namespace Wr50
open PySem PySem.W PySem.Calls PyProof.Rows
noncomputable def Hold (p : Prop) : Prop := p
theorem hold {p : Prop} (h : Hold p) : p := h
noncomputable def esc : List Nat → List Nat
  | [] => []
  | c :: l => if c = 34 then 34 :: 34 :: esc l else c :: esc l
/-- the reply: the name, its quotes doubled, within quotes, and a tail -/
noncomputable def reply (name tail : List Nat) : PySem.Str := stL (50 :: 53 :: 55 :: 32 :: 34 :: (esc name ++ 34 :: tail))
theorem esc_len : ∀ b, (esc b).length ≤ 2 * b.length
  | [] => Nat.le_refl _
  | c :: b => by
    have h := esc_len b
    by_cases hc : c = 34 <;> simp [esc, hc] <;> omega
theorem stL_app (a b : List Nat) : stL a ++ stL b = stL (a ++ b) := by
  show (⟨a.toArray ++ b.toArray⟩ : PySem.Str) = ⟨(a ++ b).toArray⟩
  simp
theorem item_pre (a : List Nat) (c : Nat) (b : List Nat) : Txt.item (stL (a ++ c :: b)) (a.length : Nat) = st1 c := by
  have e : Txt.charAt (stL (a ++ c :: b)) (a.length : Nat) = some c := by
    have e2 : seqIndex? ((a.length : Nat) : Int) (stL (a ++ c :: b)).length = some a.length := by
      have hl : (stL (a ++ c :: b)).length = a.length + (b.length + 1) := by show (a ++ c :: b).toArray.size = _; simp
      unfold seqIndex?
      rw [hl]
      simp [show ¬ ((a.length : Int) < 0) by omega]; omega
    unfold Txt.charAt
    rw [e2]
    show (a ++ c :: b).toArray[a.length]? = _
    simp
  unfold Txt.item
  rw [e]; rfl
theorem st1_eq {c d : Nat} (h : (st1 c == st1 d) = true) : c = d := by
  have h2 := LawfulBEq.eq_of_beq h
  injection h2 with h3
  injection h3 with h4
  injection h4
theorem esc_nil (b : List Nat) (h : (esc b).length = 0) : b = [] := by
  cases b with
  | nil => rfl
  | cons c b => by_cases hc : c = 34 <;> simp [esc, hc] at h
theorem esc_app : ∀ a b, esc (a ++ b) = esc a ++ esc b
  | [], _ => rfl
  | c :: a, b => by
    have e : esc (c :: a ++ b) = if c = 34 then 34 :: 34 :: esc (a ++ b) else c :: esc (a ++ b) := rfl
    rw [e, esc_app a b]
    by_cases h : c = 34 <;> simp [esc, h]
theorem rlen (name tail : List Nat) : ((reply name tail).length : Int) = 6 + ((esc name).length : Int) + tail.length := by
  show (((_ : List Nat).toArray.size : Nat) : Int) = _
  simp; omega
theorem r1 (name tail : List Nat) : Txt.slice (reply name tail) none (some 3) = Str.ofString "257" := by
  have h := slice_closes_toL (x := reply name tail) (j := 3) (by omega) (by show 3 ≤ ((_ : Nat) : Int); simp [reply, Str.length]; omega)
  exact LawfulBEq.eq_of_beq h
theorem r2 (name tail : List Nat) : Txt.slice (reply name tail) (some 3) (some 5) = Str.ofString " \"" := by
  have h := slice_closesL (x := reply name tail) (i := 3) (j := 5) (by omega) (by omega) (by show 5 ≤ ((_ : Nat) : Int); simp [reply, Str.length]; omega)
  exact LawfulBEq.eq_of_beq h
theorem pc_257a (w : World) (R : PySem.Str) (h1 : Txt.slice R none (some 3) = Str.ofString "257") (h2 : Txt.slice R (some 3) (some 5) = Str.ofString " \"") (name tail : List Nat) (tx : Tok) (hl : name.length + tail.length < 1000) (hn : R.length ≤ 10000) (hR : R = reply name tail) (ht : tail.head? ≠ some 34) : PC w 136 [.str R tx] 1 8 (fun _ => True) (fun v _ _ => ∃ t, v = .str (stL name) t) := by
  unfold PC; k_fill
  intro dp un gd frs base mean mg mb s Q E B X T hd hu hpre hret
  refine wpAny_call ?_
  refine' enter_def (binds := [("resp", .str R tx)]) X T ?k6 ?k7 ?k8 ?k9 ?kB ?_ ?c2 ?c3 ?c4 ?c5
  case k6 => k_is
  case k7 => k_is
  case k8 => ktr_room
  case k9 => exact BindsTo.of_eq rfl
  case c5 => decide
  case kB => exact locs rfl
  case c2 => exact rfl
  case c3 => exact rfl
  case c4 => exact rfl
  intro L' h' F' N'
  try k_fold
  k_with "exec While Compare cons nil" => refine hold ?_
  k_steps
  · rename (Txt.slice R none (some 3) != _) = true => hx; simp [h1] at hx
  · rename (Txt.slice R (some 3) (some 5) != _) = true => hx; simp [h2] at hx
  unfold Hold
  rename Fr _ _ _ _ => F9
  rename News _ _ _ _ => N9
  have hlen := rlen name tail
  rw [← hR] at hlen
  refine' ksw_while (σ := PySem.Str × Int × Tok × Tok) (fun _ => []) (fun c => [(Str.ofString "dirname", .str c.1 c.2.2.1), (Str.ofString "i", .int c.2.1 c.2.2.2)]) (fun _ => True) [Str.ofString "i", Str.ofString "c", Str.ofString "dirname"]
    (fun c => ∃ a b, name = a ++ b ∧ c.1 = stL a ∧ c.2.1 = 5 + ((esc a).length : Int)) (fun c => ((R.length : Int) - c.2.1).toNat) (Str.ofString "", 5, _, _) F9 N9 trivial ?hk ?hp ?turn
  case hk => kst_all
  case hp => exact ⟨[], name, rfl, rfl, rfl⟩
  case turn =>
    clear F9 N9
    rintro ⟨d, i, td, ti⟩ u h9 tk9 - ⟨a, b, hab, ha, hi⟩ F9 N9
    dsimp only at ha hi F9 N9 ⊢
    have hi2 : i < R.length := by rw [hi, hlen, hab, esc_app]; simp only [List.length_append]; omega
    have hi0 : 0 ≤ i := by omega
    have hdl : d.length ≤ 1000 := by
      have e : d.length = a.length := by rw [ha]; show a.toArray.size = _; simp
      have e2 : name.length = a.length + b.length := by rw [hab]; simp
      omega
    have hR' : R = stL ([50, 53, 55, 32, 34] ++ esc a ++ (esc b ++ 34 :: tail)) := by rw [hR, hab]; show stL _ = stL _; rw [esc_app]; simp [reply]
    have hi' : i = (([50, 53, 55, 32, 34] ++ esc a).length : Nat) := by rw [hi]; simp; omega
    have i0 : ∀ c l, esc b ++ 34 :: tail = c :: l → Txt.item R i = st1 c := by
      intro c l e; rw [hR', hi', e]; exact item_pre _ _ _
    have i1 : ∀ c d l, esc b ++ 34 :: tail = c :: d :: l → Txt.item R (i + 1) = st1 d := by
      intro c d l e
      have e2 : R = stL (([50, 53, 55, 32, 34] ++ esc a ++ [c]) ++ d :: l) := by rw [hR', e]; simp
      have e3 : i + 1 = (([50, 53, 55, 32, 34] ++ esc a ++ [c]).length : Nat) := by rw [hi']; simp
      rw [e2, e3]; exact item_pre _ _ _
    have hl3 : (R.length : Int) = i + (esc b).length + 1 + tail.length := by rw [hlen, hab, esc_app, hi]; simp; omega
    k_steps
    · show Q _ _
      rename (_ : Int) ≤ i + 1 => hx
      refine hret _ _ _ (Fr.keep (by assumption)) ⟨td, ?_⟩
      rw [ha, hab, esc_nil b (by omega)]; simp
    · show Q _ _
      rename (Txt.item R (i + 1) != _) = true => hx
      rename (Txt.item R i == _) = true => hy
      rename ¬ (_ : Int) ≤ i + 1 => hz
      refine hret _ _ _ (Fr.keep (by assumption)) ⟨td, ?_⟩
      match b, i0, i1 with
      | [], _, _ => rw [ha, hab]; simp
      | c :: b', i0, i1 =>
        by_cases hc : c = 34
        · rw [i1 34 34 (esc b' ++ 34 :: tail) (by simp [esc, hc])] at hx; exact absurd hx (by decide)
        · rw [i0 c (esc b' ++ 34 :: tail) (by simp [esc, hc])] at hy; exact absurd (st1_eq hy) hc
    · rename (Txt.item R (i + 1) != _) = false => hx
      rename (Txt.item R i == _) = true => hy
      rename ¬ (_ : Int) ≤ i + 1 => hz
      rename News _ _ _ _ => nE'
      match b, i0, i1, hab, hl3 with
      | [], i0, i1, hab, hl3 =>
        cases tail with
        | nil => simp [esc] at hl3; omega
        | cons t l =>
          rw [i1 34 t l rfl] at hx
          have hx' : st1 t = Str.ofString "\"" := by simpa [bne] using hx
          refine absurd (congrArg some (st1_eq (c := t) (d := 34) ?_)) ht
          rw [hx']; decide
      | c :: b', i0, i1, hab, hl3 =>
        by_cases hc : c = 34
        · subst hc
          refine ksw_end ⟨_, _, _, _⟩ (by assumption) nE' (by kst_in) trivial (by kst_all) (by ((intro z h2 h3; simp at h2 h3; simp [kstB, h2, h3]))) ⟨a ++ [34], b', ?_, ?_, ?_⟩ ?_
          · rw [hab]; simp
          · dsimp only
            rw [i0 34 (34 :: (esc b' ++ 34 :: tail)) rfl, ha]; show stL _ ++ stL _ = stL _; exact stL_app _ _
          · dsimp only
            rw [hi, esc_app]; simp [esc]; omega
          · dsimp only; omega
        · rw [i0 c (esc b' ++ 34 :: tail) (by simp [esc, hc])] at hy; exact absurd (st1_eq hy) hc
    · rename (Txt.item R i == _) = false => hy
      rename News _ _ _ _ => nE'
      match b, i0, i1, hab, hl3 with
      | [], i0, i1, hab, hl3 => rw [i0 34 tail rfl] at hy; exact absurd hy (by decide)
      | c :: b', i0, i1, hab, hl3 =>
        by_cases hc : c = 34
        · rw [i0 34 (34 :: (esc b' ++ 34 :: tail)) (by simp [esc, hc])] at hy; exact absurd hy (by decide)
        · refine ksw_end ⟨_, _, _, _⟩ (by assumption) nE' (by kst_in) trivial (by kst_all) (by ((intro z h2 h3; simp at h2 h3; simp [kstB, h2, h3]))) ⟨a ++ [c], b', ?_, ?_, ?_⟩ ?_
          · rw [hab]; simp
          · dsimp only
            rw [i0 c (esc b' ++ 34 :: tail) (by simp [esc, hc]), ha]; show stL _ ++ stL _ = stL _; exact stL_app _ _
          · dsimp only
            rw [hi, esc_app]; simp [esc, hc]; omega
          · dsimp only; omega
theorem pc_257 (w : World) (name tail : List Nat) (tx : Tok) (hl : name.length + tail.length < 1000) (ht : tail.head? ≠ some 34) : PC w 136 [.str (reply name tail) tx] 1 8 (fun _ => True) (fun v _ _ => ∃ t, v = .str (stL name) t) := by
  have h := rlen name tail
  have h2 := esc_len name
  exact pc_257a w _ (r1 _ _) (r2 _ _) name tail tx hl (by omega) rfl ht
end Wr50
end
section
set_option maxRecDepth 100000
set_option maxHeartbeats 4000000
namespace Wr50
open PySem PySem.W PySem.Calls PyProof.Rows PySem.Builtin PySem.Builtin.Str
theorem find_at (a b : List Nat) (c i : Nat) (hi : i ≤ a.length) (hn : ∀ v, i ≤ v → a[v]? ≠ some c) : Txt.find3 (stL (a ++ c :: b)) (st1 c) (i : Int) = (a.length : Int) := by
  have hlen : (stL (a ++ c :: b)).length = a.length + (b.length + 1) := by show (a ++ c :: b).toArray.size = _; simp
  have hg : ∀ v, (stL (a ++ c :: b)).cps.getD v 0 = (a ++ c :: b).getD v 0 := by
    intro v; show (a ++ c :: b).toArray.getD v 0 = _; simp [Array.getD_eq_getD_getElem?, List.getD_eq_getElem?_getD]
  have hat : (stL (a ++ c :: b)).cps.getD a.length 0 = c := by rw [hg]; simp [List.getD_eq_getElem?_getD]
  have hf : fromIndex (stL (a ++ c :: b)).length (i : Int) = i := by unfold fromIndex; rw [if_neg (by omega), Int.max_eq_right (by omega)]; omega
  have hlow : ∀ v, i ≤ v → v < a.length → (stL (a ++ c :: b)).cps.getD v 0 ≠ c := by
    intro v h0 h1 e
    rw [hg] at e
    refine hn v h0 ?_
    have e2 : (a ++ c :: b).getD v 0 = a[v] := by simp [List.getD_eq_getElem?_getD, List.getElem?_append_left, h1]
    rw [e2] at e
    simp [h1, e]
  rcases StrLaws.find3_spec (stL (a ++ c :: b)) c (i : Int) with ⟨_, hn'⟩ | ⟨k, h1, h2, h3, h4, h5⟩
  · exact absurd hat (hn' a.length (by rw [hf]; exact hi) (by rw [hlen]; omega))
  · rw [hf] at h2 h5
    have e : k = a.length := by
      rcases Nat.lt_trichotomy k a.length with h | h | h
      · exact absurd h4 (hlow k h2 h)
      · exact h
      · exact absurd hat (h5 a.length hi h)
    rw [← e]; exact h1
/-- texts with a sign between them -/
noncomputable def joinL (c : Nat) : List (List Nat) → List Nat
  | [] => []
  | [p] => p
  | p :: q :: r => p ++ c :: joinL c (q :: r)
theorem app_inj (c : Nat) : ∀ (p q x y : List Nat), c ∉ p → c ∉ q → p ++ c :: x = q ++ c :: y → p = q ∧ x = y
  | [], [], x, y, _, _, h => ⟨rfl, by simpa using h⟩
  | [], d :: q, x, y, _, hq, h => by simp at h hq; exact absurd h.1 hq.1
  | d :: p, [], x, y, hp, _, h => by simp at h hp; exact absurd h.1.symm hp.1
  | d :: p, e :: q, x, y, hp, hq, h => by
    simp at h hp hq
    obtain ⟨a, b⟩ := app_inj c p q x y hp.2 hq.2 h.2
    exact ⟨by rw [h.1, a], b⟩
theorem mem_joinL (c : Nat) (p q : List Nat) (r : List (List Nat)) : c ∈ joinL c (p :: q :: r) := by simp [joinL]
theorem joinL_inj (c : Nat) : ∀ (a b : List (List Nat)), a ≠ [] → b ≠ [] → (∀ p ∈ a, c ∉ p) → (∀ p ∈ b, c ∉ p) → joinL c a = joinL c b → a = b
  | [], _, h, _, _, _, _ => absurd rfl h
  | _, [], _, h, _, _, _ => absurd rfl h
  | [p], [q], _, _, _, _, h => by have : p = q := h; rw [this]
  | [p], q :: q2 :: r, _, _, hp, _, h => by
    have e : p = joinL c (q :: q2 :: r) := h
    exact absurd (e ▸ mem_joinL c q q2 r) (hp p (.head _))
  | p :: p2 :: r, [q], _, _, _, hq, h => by
    have e : joinL c (p :: p2 :: r) = q := h
    exact absurd (e ▸ mem_joinL c p p2 r) (hq q (.head _))
  | p :: p2 :: r, q :: q2 :: r', _, _, hp, hq, h => by
    obtain ⟨e1, e2⟩ := app_inj c p q _ _ (hp p (.head _)) (hq q (.head _)) h
    rw [e1, joinL_inj c (p2 :: r) (q2 :: r') (by simp) (by simp) (fun x hx => hp x (.tail _ hx)) (fun x hx => hq x (.tail _ hx)) e2]
theorem glue_fold (c : Nat) : ∀ (r : List PySem.Str) (a : Array Nat), (r.foldl (fun acc p => acc ++ (st1 c).cps ++ p.cps) a).toList = joinL c (a.toList :: r.map (·.cps.toList))
  | [], a => rfl
  | p :: r, a => by
    rw [List.foldl_cons, glue_fold c r]
    cases r with
    | nil => simp [joinL]
    | cons q r => simp [joinL]
theorem glued_joinL (c : Nat) (l : List PySem.Str) (h : l ≠ []) : (Txt.join (st1 c) l).cps.toList = joinL c (l.map (·.cps.toList)) := by
  cases l with
  | nil => exact absurd rfl h
  | cons p r => exact glue_fold c r p.cps
theorem split_is (c : Nat) (l : List (List Nat)) (h : l ≠ []) (hf : ∀ p ∈ l, c ∉ p) : Txt.split (stL (joinL c l)) (st1 c) = l.map stL := by
  have h1 := StrLaws.join_split (stL (joinL c l)) (st1 c)
  have h2 := StrLaws.split_free (stL (joinL c l)) c
  have h3 := split_pos (stL (joinL c l)) (st1 c)
  have hne : Txt.split (stL (joinL c l)) (st1 c) ≠ [] := by intro e; rw [e] at h3; simp at h3
  have h4 := glued_joinL c _ hne
  have h5 : (Txt.join (st1 c) (Txt.split (stL (joinL c l)) (st1 c))).cps.toList = joinL c l := by
    have : Txt.join (st1 c) (Txt.split (stL (joinL c l)) (st1 c)) = stL (joinL c l) := (StrLaws.glued_eq_join _ _).trans h1
    rw [this]
  rw [h5] at h4
  have h6 := joinL_inj c l ((Txt.split (stL (joinL c l)) (st1 c)).map (·.cps.toList)) h (by simpa using hne) hf (by
    intro p hp
    obtain ⟨x, hx, e⟩ := List.mem_map.mp hp
    subst e; exact h2 x hx) h4
  generalize Txt.split (stL (joinL c l)) (st1 c) = S at h6
  rw [h6, List.map_map]
  refine (List.map_id'' (fun x => ?_) S).symm
  rfl
end Wr50
end
section
set_option maxRecDepth 100000
set_option maxHeartbeats 4000000
namespace Wr50
open PySem PySem.W PySem.Calls PyProof.Rows
/-- the question to parse229: a mark, a text -/
noncomputable def ask (m : Nat) (ps : List Nat) : PySem.Str := stL ([50, 50, 57, 32, 111, 107, 32, 40, m, m, 49, m] ++ ps ++ [m, 41, 32, 40, 120, 41])
noncomputable def marks : List Nat := [124, 33, 126, 35, 120]
theorem pc_229a (w : World) (R : PySem.Str) (m : Nat) (r : Int) (ps host : PySem.Str) (port : Int) (tx th t21 : Tok) (pa : Addr) (hn : R.length ≤ 60) (hps : ps.length ≤ 640) (hr0 : 12 ≤ r) (hr : r < R.length) (h1 : Txt.slice R none (some 3) = Str.ofString "229") (h2 : Txt.find R (Str.ofString "(") = 7) (h3 : Txt.find3 R (Str.ofString ")") (Txt.find R (Str.ofString "(") + 1) = r) (h4 : Txt.item R (Txt.find R (Str.ofString "(") + 1) = st1 m) (h5 : Txt.item R (Txt.find3 R (Str.ofString ")") (Txt.find R (Str.ofString "(") + 1) - 1) = st1 m) (h6 : Txt.split (Txt.slice R (some (Txt.find R (Str.ofString "(") + 1)) (some (Txt.find3 R (Str.ofString ")") (Txt.find R (Str.ofString "(") + 1)))) (Txt.item R (Txt.find R (Str.ofString "(") + 1)) = [⟨#[]⟩, ⟨#[]⟩, st1 49, ps, ⟨#[]⟩]) (h7 : PySem.intText? ps = some port) : PC w 129 [.str R tx, .ref pa] 1 8 (fun h => IsTup h pa #[.str host th, .int 21 t21]) (fun v h₀ h => ∃ a t1 t2, v = .ref a ∧ h₀.get? a = none ∧ IsTup h a #[.str host t1, .int port t2]) := by
  unfold PC; k_fill
  intro dp un gd frs base mean mg mb s Q E B X T hd hu hpre hret
  refine wpAny_call ?_
  refine' enter_def (binds := [("resp", .str R tx), ("peer", .ref pa)]) X T ?k6 ?k7 ?k8 ?k9 ?kB ?_ ?c2 ?c3 ?c4 ?c5
  case k6 => k_is
  case k7 => k_is
  case k8 => ktr_room
  case k9 => exact BindsTo.of_eq rfl
  case c5 => decide
  case kB => exact locs rfl
  case c2 => exact rfl
  case c3 => exact rfl
  case c4 => exact rfl
  intro L' h' F' N'
  try k_fold
  k_steps
  · rename (Txt.slice R none (some 3) != _) = true => hx; simp [h1] at hx
  · rename (Txt.item R _ != Txt.item R _) = true => hx; simp [h4, h5] at hx
  · rename List.map _ _ = Txt.split _ _ => e9
    rename ¬ ((_ : Nat) : Int) = 5 => hx
    rw [h6] at e9
    have e10 := congrArg List.length e9
    rw [List.length_map] at e10
    refine absurd ?_ hx
    rw [e10]; rfl
  rename List.map _ _ = Txt.split _ _ => e9
  rename _ = some _ => hy
  rw [e9, h6] at hy
  cases hy
  refine KIN.call_text h7 hps ?_
  k_steps
  show Q _ _
  rename News _ _ _ _ => N9
  exact hret _ _ _ (Fr.keep (by assumption)) ⟨_, _, _, rfl, (N9 _ (.head _)).2.2, _, (N9 _ (.head _)).1, rfl, _, rfl⟩

theorem pc_229 (w : World) (m : Nat) (hm : m ∈ marks) (ps : List Nat) (hc : ∀ c ∈ ps, c = 45 ∨ (48 ≤ c ∧ c ≤ 57)) (hl : ps.length ≤ 12) (host : PySem.Str) (port : Int) (hi : PySem.intText? (stL ps) = some port) (tx th t21 : Tok) (pa : Addr) :
    PC w 129 [.str (ask m ps) tx, .ref pa] 1 8 (fun h => IsTup h pa #[.str host th, .int 21 t21]) (fun v h₀ h => ∃ a t1 t2, v = .ref a ∧ h₀.get? a = none ∧ IsTup h a #[.str host t1, .int port t2]) := by
  have hlen : (ask m ps).length = 18 + ps.length := by show (_ : List Nat).toArray.size = _; simp; omega
  have hm2 : m ≠ 41 ∧ m ≠ 45 ∧ m ≠ 49 ∧ ¬ (48 ≤ m ∧ m ≤ 57) := by
    simp only [marks, List.mem_cons, List.not_mem_nil, or_false] at hm
    omega
  have h1 : Txt.slice (ask m ps) none (some 3) = Str.ofString "229" := by
    have h := slice_closes_toL (x := ask m ps) (j := 3) (by omega) (by rw [hlen]; omega)
    exact LawfulBEq.eq_of_beq h
  have h2 : Txt.find (ask m ps) (Str.ofString "(") = 7 := by
    rw [find_is_find3]
    exact find_at [50, 50, 57, 32, 111, 107, 32] ([m, m, 49, m] ++ ps ++ [m, 41, 32, 40, 120, 41]) 40 0 (by decide) (by
      intro v _ e
      have := List.mem_of_getElem? e
      simp at this)
  have h3 : Txt.find3 (ask m ps) (Str.ofString ")") (Txt.find (ask m ps) (Str.ofString "(") + 1) = 13 + (ps.length : Int) := by
    rw [h2]
    have e := find_at ([50, 50, 57, 32, 111, 107, 32, 40, m, m, 49, m] ++ ps ++ [m]) [32, 40, 120, 41] 41 8 (by simp <;> omega) (by
      intro v hv e
      have h := List.mem_of_getElem? e
      simp only [List.mem_append, List.mem_cons, List.not_mem_nil, or_false] at h
      rcases h with (h | h) | h
      · omega
      · have := hc 41 h; omega
      · omega)
    have e2 : stL (([50, 50, 57, 32, 111, 107, 32, 40, m, m, 49, m] ++ ps ++ [m]) ++ 41 :: [32, 40, 120, 41]) = ask m ps := by show stL _ = stL _; congr 1; simp
    rw [e2] at e
    refine Eq.trans e ?_
    simp; omega
  have h4 : Txt.item (ask m ps) (Txt.find (ask m ps) (Str.ofString "(") + 1) = st1 m := by
    rw [h2]
    exact item_pre [50, 50, 57, 32, 111, 107, 32, 40] m ([m, 49, m] ++ ps ++ [m, 41, 32, 40, 120, 41])
  have h5 : Txt.item (ask m ps) (Txt.find3 (ask m ps) (Str.ofString ")") (Txt.find (ask m ps) (Str.ofString "(") + 1) - 1) = st1 m := by
    rw [h3]
    have e := item_pre ([50, 50, 57, 32, 111, 107, 32, 40, m, m, 49, m] ++ ps) m [41, 32, 40, 120, 41]
    have e2 : (([50, 50, 57, 32, 111, 107, 32, 40, m, m, 49, m] ++ ps).length : Int) = 13 + (ps.length : Int) - 1 := by simp; omega
    rw [← e2]
    exact e
  have h6 : Txt.split (Txt.slice (ask m ps) (some (Txt.find (ask m ps) (Str.ofString "(") + 1)) (some (Txt.find3 (ask m ps) (Str.ofString ")") (Txt.find (ask m ps) (Str.ofString "(") + 1)))) (Txt.item (ask m ps) (Txt.find (ask m ps) (Str.ofString "(") + 1)) = [⟨#[]⟩, ⟨#[]⟩, st1 49, stL ps, ⟨#[]⟩] := by
    rw [h4, h3, h2]
    have e : Txt.slice (ask m ps) (some (7 + 1)) (some (13 + (ps.length : Int))) = stL (joinL m [[], [], [49], ps, []]) := by
      have h := slice_closesL (x := ask m ps) (i := 8) (j := 13 + (ps.length : Int)) (by omega) (by omega) (by rw [hlen]; omega)
      refine (LawfulBEq.eq_of_beq h).trans ?_
      show stL _ = stL _
      congr 1
      have e8 : (([50, 50, 57, 32, 111, 107, 32, 40, m, m, 49, m] ++ ps ++ [m, 41, 32, 40, 120, 41]).drop 8) = ([m, m, 49, m] ++ ps ++ [m]) ++ [41, 32, 40, 120, 41] := by simp
      show ((([50, 50, 57, 32, 111, 107, 32, 40, m, m, 49, m] ++ ps ++ [m, 41, 32, 40, 120, 41]).drop 8).take _) = _
      have e9 : (13 + (ps.length : Int) - 8).toNat = ps.length + 5 := by omega
      rw [e9, e8, List.take_left' (by simp <;> omega)]
      simp [joinL]
    rw [e]
    exact split_is m [[], [], [49], ps, []] (by simp) (by
      intro p hp
      simp only [List.mem_cons, List.not_mem_nil, or_false] at hp
      rcases hp with h | h | h | h | h
      · subst h; simp
      · subst h; simp
      · subst h; simp; omega
      · subst h; intro h; have := hc m h; omega
      · subst h; simp)
  exact pc_229a w _ m (13 + ps.length) (stL ps) host port tx th t21 pa (by omega) (by show (_ : List Nat).toArray.size ≤ _; simp; omega) (by omega) (by omega) h1 h2 h3 h4 h5 h6 hi
end Wr50
end
section
set_option maxRecDepth 100000
set_option maxHeartbeats 4000000
namespace Wr50
open PySem PySem.W PySem.Calls PyProof.Rows
noncomputable def whileBody : Stmt → List Stmt
  | .While _ b _ _ => b
  | _ => []
noncomputable def forBody : Stmt → List Stmt
  | .For _ _ b _ _ => b
  | _ => []
@[reducible] noncomputable def wb23 : { l : List Stmt // l = whileBody (b23.1.getD 4 (.Pass ⟨0, 0, 0, 0⟩)) } := by
  apply cap
  conv => rhs; whnf
noncomputable def hid : List Nat := [173, 847, 6150, 6155, 6156, 6157, 8203, 8204, 8205, 8288, 65279, 65024, 65025, 65026, 65027, 65028, 65029, 65030, 65031, 65032, 65033, 65034, 65035, 65036, 65037, 65038, 65039]
noncomputable def ahd (n : Nat) : List Nat := if n % 3 = 0 then [hid.getD (n / 3 % 27) 0] else []
noncomputable def lig (c n : Nat) : Nat := if c = 102 then 64257 else 64261 + n % 2
noncomputable def alphas : List Nat := [0, 1, 2, 4, 7, 8, 9, 10, 11, 12]
noncomputable def alt (c : Nat) : Nat := [8497, 8464, 383, 84].getD (ltrs.idxOf c) 0
noncomputable def sgn (c n : Nat) : Nat := if n % 12 < 10 then 119711 + 52 * alphas.getD (n % 12) 0 + c else if n % 12 = 10 then c else alt c
noncomputable def ligAt (o : List Nat) (k : Nat) : Bool := (o.drop k).take 2 == [102, 105] || (o.drop k).take 2 == [115, 116]
/-- what one turn lays down, and how far it goes -/
noncomputable def lay1 (o : List Nat) (k n : Nat) : List Nat := if ligAt o k = true ∧ n % 4 < 2 then ahd n ++ [lig (o.getD k 0) n] else ahd n ++ [sgn (o.getD k 0) n]
noncomputable def go1 (o : List Nat) (k n : Nat) : Nat := if ligAt o k = true ∧ n % 4 < 2 then k + 2 else k + 1
theorem strE {x y : PySem.Str} {t : Tok} (e : x = y) : ∃ t', Value.str x t = .str y t' := ⟨t, by rw [e]⟩
theorem lenF : ∀ o ∈ perms4, (stL o).length = 4 := by decide
theorem hidF (i : Nat) : (hid.map (fun x : Nat => (x : Int))).getD i 0 = ((hid.getD i 0 : Nat) : Int) := by
  simp only [List.getD_eq_getElem?_getD, List.getElem?_map]
  cases hid[i]? <;> rfl
theorem ligF : ∀ o ∈ perms4, ∀ k : Fin 4, ([Str.ofString "fi", Str.ofString "st"].any fun x => x == Txt.slice (stL o) (some (k.val : Int)) (some ((k.val : Int) + 2))) = ligAt o k.val := by decide +kernel
theorem itemF : ∀ o ∈ perms4, ∀ k : Fin 4, Txt.item (stL o) (k.val : Int) = st1 (o.getD k.val 0) ∧ o.getD k.val 0 ∈ ltrs := by decide +kernel
theorem findF : ∀ c ∈ ltrs, Txt.find fistS (st1 c) = (ltrs.idxOf c : Int) := by decide +kernel
section
variable {α : Type} {M : Model} {A : Around} {t : Sem α} {E : Value → Shared → Prop} {Q : α → Shared → Prop} {s : Shared} {g : Heap} {L : Addr} {mp : PySem.Str → Option Value} {nw : List (Addr × Obj)}
/-- the frame and the ledger stand, and the answer is so -/
noncomputable def CutW (s : Shared) (g : Heap) (L : Addr) (mp : PySem.Str → Option Value) (nw : List (Addr × Obj)) (P : α → Prop) (v : α) (s' : Shared) : Prop :=
  ∃ h' k, s' = { s with heap := h', toks := k } ∧ Fr g L h' mp ∧ News g L h' nw ∧ P v
theorem cutW (F : Fr g L s.heap mp) (N : News g L s.heap nw) (P : α → Prop) (hw : wpAny M A t (CutW s g L mp nw P) E s)
    (h : ∀ v h' k, Fr g L h' mp → News g L h' nw → P v → Q v { s with heap := h', toks := k }) : wpAny M A t Q E s :=
  wpAny_mono hw (fun v s' ⟨h', k, e, a, b, c⟩ => e ▸ h v h' k a b c) fun _ _ x => x
theorem kst_self {ps : List (PySem.Str × Value)} (h : ∀ p ∈ ps, mp p.1 = some p.2) (F : Fr g L s.heap mp) : Fr g L s.heap (kstB mp ps) := by
  have e : kstB mp ps = mp := funext fun z => kstB_eq h fun _ => rfl
  rw [e]; exact F
end
/-- a body's end: the ledger has gone over, the names are so -/
noncomputable def TurnW (s : Shared) (g : Heap) (L : Addr) (mp : PySem.Str → Option Value) (stored : List PySem.Str) (P : (PySem.Str → Option Value) → List (Addr × Obj) → Prop) (fl : Flow) (s' : Shared) : Prop :=
  ∃ h' k m' nw, fl = .next ∧ s' = { s with heap := h', toks := k } ∧ Fr g L h' m' ∧ News g L h' nw ∧ (∀ z, stored.contains z = false → m' z = mp z) ∧ P m' nw
/-- a statement's answer, handed on -/
theorem turn_go {prog : Program} {w : World} {A : Around} {t : Sem Flow} {E : Value → Shared → Prop} {s s₀ : Shared} {g : Heap} {L : Addr} {m : PySem.Str → Option Value} {st : List PySem.Str} {P : (PySem.Str → Option Value) → List (Addr × Obj) → Prop} {Q : Flow → Shared → Prop} (hw : wpAny (model prog w) A t (TurnW s g L m st P) E s₀)
    (h : ∀ h' k m' nw', Fr g L h' m' → News g L h' nw' → (∀ z, st.contains z = false → m' z = m z) → P m' nw' → Q Flow.next ⟨h', s.gens, s.drawn, k, s.os⟩) : wpAny (model prog w) A t Q E s₀ :=
  wpAny_mono hw (fun _ _ ⟨h', k, m', nw', e1, e2, F, N, hs, hP⟩ => by subst e1; subst e2; exact h h' k m' nw' F N hs hP) fun _ _ x => x
/-- what is to be answered, out of sight -/
theorem hideQ {M : Model} {A : Around} {α : Type} {t : Sem α} {E : Value → Shared → Prop} {s : Shared} {P : α → Shared → Prop} (h : ∀ Q : α → Shared → Prop, (∀ v s', P v s' → Q v s') → wpAny M A t Q E s) : wpAny M A t P E s := h P fun _ _ x => x
theorem room1 {dp n k R : Nat} (h : dp + n < R) (hk : 1 + k ≤ n) : dp + 1 + k < R := by omega
theorem room3 {un n k R : Nat} (h : un + n < R) (hk : 3 + k ≤ n) : un + 3 + k < R := by omega
theorem hideQ2 {M : Model} {A : Around} {α β : Type} {a : Sem β} {t : Sem α} {E : Value → Shared → Prop} {s : Shared} {P : α → Shared → Prop} (h : ∀ Q : α → Shared → Prop, (∀ v s', P v s' → Q v s') → wpAny M A a (fun _ s₂ => wpAny M A t Q E s₂) E s) : wpAny M A a (fun _ s₂ => wpAny M A t P E s₂) E s := h P fun _ _ x => x
theorem all1 {α : Type} {P : α → Prop} {a : α} {l : List α} (h : P a) (t : ∀ p ∈ l, P p) : ∀ p ∈ a :: l, P p := List.forall_mem_cons.mpr ⟨h, t⟩
theorem all0 {α : Type} {P : α → Prop} : ∀ p ∈ ([] : List α), P p := fun _ h => nomatch h
end Wr50
end
section
set_option maxRecDepth 100000
set_option maxHeartbeats 4000000
namespace Wr50
open PySem PySem.W PySem.Calls PyProof.Rows
theorem newsSub {g h : Heap} {L : Addr} {nw nw' : List (Addr × Obj)} (N : News g L h nw') (hs : ∀ p ∈ nw, p ∈ nw') : News g L h nw := fun p hp => N p (hs p hp)
theorem idxF : ∀ c ∈ ltrs, ltrs.idxOf c < 4 := by decide
theorem alphF : ∀ j : Fin 12, 0 ≤ ([0, 1, 2, 4, 7, 8, 9, 10, 11, 12] : List Int).getD j.val 0 ∧ ([0, 1, 2, 4, 7, 8, 9, 10, 11, 12] : List Int).getD j.val 0 = (alphas.getD j.val 0 : Nat) ∧ alphas.getD j.val 0 ≤ 12 := by decide
theorem altF : ∀ c ∈ ltrs, 0 ≤ ([8497, 8464, 383, 84] : List Int).getD ((ltrs.idxOf c : Nat) : Int).toNat 0 ∧ ([8497, 8464, 383, 84] : List Int).getD ((ltrs.idxOf c : Nat) : Int).toNat 0 = (alt c : Nat) ∧ alt c ≤ 9000 := by decide
theorem sgnB (c n : Nat) (h : 102 ≤ c ∧ c ≤ 116) : sgn c n ≤ 1000000 := by
  have h1 : alphas.getD (n % 12) 0 ≤ 12 := (alphF ⟨n % 12, Nat.mod_lt _ (by decide)⟩).2.2
  have h2 : ∀ j : Fin 5, [8497, 8464, 383, 84].getD j.val 0 ≤ 9000 := by decide
  have h3 : alt c ≤ 9000 := h2 ⟨ltrs.idxOf c, Nat.lt_succ_of_le (List.idxOf_le_length (l := ltrs))⟩
  unfold sgn; split
  · omega
  · split <;> omega
theorem intE {x y : Int} {t : Tok} (e : x = y) : ∃ t', Value.int x t = .int y t' := ⟨t, by rw [e]⟩
theorem some_int {x y : Int} {t : Tok} (e : x = y) : some (Value.int x t) = some (.int y t) := by rw [e]
theorem fm3 (n : Nat) : (n : Int).fmod 3 = ((n % 3 : Nat) : Int) := fmN n 3
theorem fm27 (n : Nat) : ((n : Int).fdiv 3).fmod 27 = ((n / 3 % 27 : Nat) : Int) := by rw [show (n : Int).fdiv 3 = ((n / 3 : Nat) : Int) from fdN n 3]; exact fmN _ 27
theorem fm4 (n : Nat) : (n : Int).fmod 4 = ((n % 4 : Nat) : Int) := fmN n 4
theorem fm12 (n : Nat) : (n : Int).fmod 12 = ((n % 12 : Nat) : Int) := fmN n 12
theorem fm2 (n : Nat) : (n : Int).fmod 2 = ((n % 2 : Nat) : Int) := fmN n 2
theorem fb27 (n : Nat) : 0 ≤ ((n : Int).fdiv 3).fmod 27 ∧ ((n : Int).fdiv 3).fmod 27 < 27 := by rw [fm27]; omega
theorem fb12 (n : Nat) : 0 ≤ (n : Int).fmod 12 ∧ (n : Int).fmod 12 < 12 := by rw [fm12]; omega
theorem fb2 (n : Nat) : 0 ≤ (n : Int).fmod 2 ∧ (n : Int).fmod 2 < 2 := by rw [fm2]; omega
theorem dress_turn : ∀ (w : World) (o : List Nat) (m : Nat) (tx tm : Tok) (_ : m < 1000000) (_ : o ∈ perms4)
   (dp un : Nat) (gd : Option (List Code)) (frs : List Env) (base g : Heap) (mean : ExcName → Option Value) (mg mb : PySem.Str → Option Value)
   (_ : Below (ar dp un gd frs) base frs g) (_ : (KF w.params).In g) (_ : Top qv lo mean mg mb g) (_ : dp + 1 < recursionLimit) (_ : un + 8 < cLine)
   (L lp ld : Addr) (ws vs : List Value) (ys : List PySem.Str) (nn : Nat) (k : Nat) (tk1 : Tok) (_ : k < 4) (U : PySem.Str → Option Value) (s : Shared) (E : Value → Shared → Prop)
   (_ : IntsAre ws (hid.map (fun x : Nat => (x : Int)))) (_ : StrsAre vs ys) (_ : vs.length ≤ 100) (_ : ld < lp)
   (_ : Fr g L s.heap (kstB U [(Str.ofString "order", .str (stL o) tx), (Str.ofString "m", .int m tm), (Str.ofString "hidden", .ref ld), (Str.ofString "pieces", .ref lp), (Str.ofString "k", .int k tk1)]))
   (_ : News g L s.heap [(lp, W.listOf vs.toArray nn), (ld, W.listOf ws.toArray 0)]),
   wpAny (model PySem.Challenge.rw_wr0050_01.prog w) ((ar dp un gd frs).deeper (envOf (Str.ofString "_law_dressed") s23.val L 192 (Value.ref 191)))
     (execs wb23.1 (envOf (Str.ofString "_law_dressed") s23.val L 192 (Value.ref 191)))
     (TurnW s g L (kstB U [(Str.ofString "order", .str (stL o) tx), (Str.ofString "m", .int m tm), (Str.ofString "hidden", .ref ld), (Str.ofString "pieces", .ref lp), (Str.ofString "k", .int k tk1)]) [Str.ofString "k", Str.ofString "n", Str.ofString "ahead"]
       (fun m' nw => ∃ vs' nn' t', (lp, W.listOf vs'.toArray nn') ∈ nw ∧ (ld, W.listOf ws.toArray 0) ∈ nw ∧ StrsAre vs' (ys ++ [stL (lay1 o k (m + 5 * k))]) ∧ m' (Str.ofString "k") = some (.int (go1 o k (m + 5 * k) : Nat) t'))) E s := by
  k_fill
  intro w o m tx tm hm ho dp un gd frs base g mean mg mb B X T hd hu L lp ld ws vs ys nn k tk1 hk U s E hI9 hys hvl hlt F8 N8
  refine hideQ ?_
  intro Q0 hQ0
  have hol : (stL o).length = 4 := lenF o ho
  have hvz : vs.toArray.size ≤ 100 := by rw [List.size_toArray]; exact hvl
  have hhid : ∀ i : Nat, i < 27 → 0 < hid.getD i 0 ∧ hid.getD i 0 ≤ 100000 := by decide
  obtain ⟨hit, hc⟩ := itemF o ho ⟨k, hk⟩
  have hlg := ligF o ho ⟨k, hk⟩
  dsimp only at hit hc hlg
  have en1 : (m : Int) + 5 * k = ((m + 5 * k : Nat) : Int) := by omega
  generalize hn : m + 5 * k = n at en1 hQ0 ⊢
  have b27 := fb27 n
  have b12 := fb12 n
  have b2 := fb2 n
  k_with "eval IfExp" => refine hold ?_
  k_steps
  unfold Hold
  rename Fr _ _ _ _ => F7
  rename News _ _ _ _ => N7
  rw [en1] at F7
  refine cutW F7 N7 (fun v : Value => ∃ t, v = .str (stL (ahd n)) t) ?_ ?_
  · k_with_none
    k_steps
    · rename (n : Int).fmod 3 = 0 => hx
      rw [fm27, hidF, Int.toNat_natCast]
      obtain ⟨g0, g1⟩ := hhid (n / 3 % 27) (Nat.mod_lt _ (by decide))
      refine chr_of_range (by omega) (by omega) ?_
      refine ⟨_, _, rfl, by assumption, by assumption, strE ?_⟩
      rw [Int.toNat_natCast, ahd, if_pos (by have := fm3 n; omega)]
    · rename (n : Int).fmod 3 ≠ 0 => hx
      refine ⟨_, _, rfl, by assumption, by assumption, strE ?_⟩
      rw [ahd, if_neg (by have := fm3 n; omega)]; rfl
  · rintro _ h6 tk6 F6 N6 ⟨t6, rfl⟩
    clear F7 N7
    have hal : (stL (ahd n)).length ≤ 1 := by unfold ahd; split; exact Nat.le_refl _; exact Nat.zero_le _
    k_with "isTrue BoolOp" => refine hold ?_
    k_steps
    unfold Hold
    rename Fr _ _ _ _ => F5
    rename News _ _ _ _ => N5
    refine cutW F5 N5 (fun b : Bool => b = decide (ligAt o k = true ∧ n % 4 < 2)) ?_ ?_
    · k_with_none
      k_steps
      · rename (List.any _ _) = true => hx
        rename (n : Int).fmod 4 < 2 => hy
        rename News _ _ _ _ => N3
        rw [hlg] at hx
        refine ⟨_, _, rfl, by assumption, newsSub N3 (by kst_in), ?_⟩
        rw [decide_eq_true ⟨hx, by have := fm4 n; omega⟩]
      · rename (List.any _ _) = true => hx
        rename ¬ (n : Int).fmod 4 < 2 => hy
        rename News _ _ _ _ => N3
        refine ⟨_, _, rfl, by assumption, newsSub N3 (by kst_in), ?_⟩
        rw [decide_eq_false (fun h => hy (by have := fm4 n; omega))]
      · rename (List.any _ _) = false => hx
        rename News _ _ _ _ => N3
        rw [hlg] at hx
        refine ⟨_, _, rfl, by assumption, newsSub N3 (by kst_in), ?_⟩
        rw [decide_eq_false (fun h => by rw [hx] at h; cases h.1)]
    · rintro _ h4 tk4 F4 N4 rfl
      clear F5 N5
      by_cases hl : ligAt o k = true ∧ n % 4 < 2
      · rw [decide_eq_true hl]
        k_with "eval IfExp" => refine hold ?_
        k_steps
        unfold Hold
        rename Fr _ _ _ _ => F2
        rename News _ _ _ _ => N2
        refine cutW F2 N2 (fun v : Value => ∃ t, v = .int (lig (o.getD k 0) n : Nat) t) ?_ ?_
        · k_with_none
          k_steps
          · rename (Txt.item _ _ == _) = true => hx
            rw [hit] at hx
            have e := st1_eq (d := 102) hx
            refine ⟨_, _, rfl, by assumption, by assumption, intE ?_⟩
            rw [lig, if_pos e]; rfl
          · rename (Txt.item _ _ == _) = false => hx
            rw [hit] at hx
            have e : ¬ o.getD k 0 = 102 := fun e => by rw [e] at hx; exact absurd hx (by decide)
            refine ⟨_, _, rfl, by assumption, by assumption, intE ?_⟩
            rw [lig, if_neg e, fm2]; omega
        · rintro _ h1 tk1 F1 N1 ⟨t1, rfl⟩
          clear F2 N2
          have hlb : lig (o.getD k 0) n ≤ 100000 := by unfold lig; split <;> omega
          have hl1 : lay1 o k n = ahd n ++ [lig (o.getD k 0) n] := if_pos hl
          have hg1 : go1 o k n = k + 2 := if_pos hl
          k_with "call builtin:list.append" => refine hold ?_
          k_steps
          unfold Hold
          rename Fr _ _ _ _ => F3
          rename News _ _ _ _ => N3
          refine append_K (its := vs.toArray) (n := nn) F3 N3 (Upd.head fun p hp => by rcases List.mem_cons.mp hp with rfl | h; exact Nat.ne_of_lt hlt; cases h) ?_ (by simp only [sizeLine_eq, List.size_toArray]; omega)
          intro h0 F0 N0
          k_steps
          rename Fr _ _ _ _ => F9
          rename News _ _ _ _ => N9
          have ev : stL (ahd n) ++ (⟨#[((lig (o.getD k 0) n : Nat) : Int).toNat]⟩ : PySem.Str) = stL (lay1 o k n) := by rw [Int.toNat_natCast, hl1]; exact stL_app _ _
          rw [ev] at N9
          exact hQ0 _ _ ⟨_, _, _, _, rfl, rfl, F9, N9, by ((intro z h3; simp at h3; simp [h3])), vs ++ [_], nn + 1, _, by rw [← List.push_toArray]; exact .head _, .tail _ (.head _), StrsAre.append' hys (.cons _ _ .nil), some_int (by rw [hg1]; omega)⟩
      · rw [decide_eq_false hl]
        have hl1 : lay1 o k n = ahd n ++ [sgn (o.getD k 0) n] := if_neg hl
        have hg1 : go1 o k n = k + 1 := if_neg hl
        generalize o.getD k 0 = c at *
        have hcb : 102 ≤ c ∧ c ≤ 116 := by simp only [ltrs, List.mem_cons, List.not_mem_nil, or_false] at hc; omega
        have hix : ltrs.idxOf c < 4 := idxF c hc
        have hsn : (sgn c n : Nat) ≤ 1000000 := sgnB c n hcb
        have apx : ∀ x : Nat, stL (ahd n) ++ (⟨#[x]⟩ : PySem.Str) = stL (ahd n ++ [x]) := fun x => stL_app _ [x]
        k_with_none
        k_with "call builtin:list.append" => refine hold ?_
        k_with "call builtin:ord" => refine hold ?_
        k_with "call builtin:chr" => refine hold ?_
        k_with "call builtin:str.find" => refine hold ?_
        k_steps
        · unfold Hold
          rw [hit]
          refine P.ord_of_char ?_
          k_steps
          unfold Hold
          rename (n : Int).fmod 12 < 10 => hy
          obtain ⟨q0, q1, q2⟩ : 0 ≤ ([0, 1, 2, 4, 7, 8, 9, 10, 11, 12] : List Int).getD ((n : Int).fmod 12).toNat 0 ∧ ([0, 1, 2, 4, 7, 8, 9, 10, 11, 12] : List Int).getD ((n : Int).fmod 12).toNat 0 = (alphas.getD (n % 12) 0 : Nat) ∧ alphas.getD (n % 12) 0 ≤ 12 := by
            rw [fm12, Int.toNat_natCast]
            exact alphF ⟨n % 12, Nat.mod_lt _ (by decide)⟩
          have hs1 : sgn c n = 119711 + 52 * alphas.getD (n % 12) 0 + c := if_pos (by have := fm12 n; omega)
          refine chr_of_range (by omega) (by omega) ?_
          rw [show ((119711 : Int) + 52 * ([0, 1, 2, 4, 7, 8, 9, 10, 11, 12] : List Int).getD ((n : Int).fmod 12).toNat 0 + (c : Int)).toNat = sgn c n by rw [hs1]; omega]
          k_steps
          unfold Hold
          rename Fr _ _ _ _ => F3
          rename News _ _ _ _ => N3
          have N4' := newsSub (nw := [(lp, W.listOf vs.toArray nn), (ld, W.listOf ws.toArray 0)]) N3 (by kst_in)
          rw [apx, ← hl1]
          refine append_K (its := vs.toArray) (n := nn) F3 N4' (Upd.head fun p hp => by rcases List.mem_cons.mp hp with rfl | h; exact Nat.ne_of_lt hlt; cases h) ?_ (by simp only [sizeLine_eq, List.size_toArray]; omega)
          intro h0 F0 N0
          k_steps
          rename Fr _ _ _ _ => F9
          rename News _ _ _ _ => N9
          exact hQ0 _ _ ⟨_, _, _, _, rfl, rfl, F9, N9, by ((intro z h3; simp at h3; simp [h3])), vs ++ [_], nn + 1, _, by rw [← List.push_toArray]; exact .head _, .tail _ (.head _), StrsAre.append' hys (.cons _ _ .nil), some_int (by rw [hg1]; omega)⟩
        · unfold Hold
          rw [hit]
          refine SC.find ?_
          rw [findF c hc]
          k_steps
          unfold Hold
          rename ¬ (n : Int).fmod 12 < 10 => hy
          obtain ⟨q0, q1, q2⟩ : 0 ≤ ([8497, 8464, 383, 84] : List Int).getD ((ltrs.idxOf c : Nat) : Int).toNat 0 ∧ ([8497, 8464, 383, 84] : List Int).getD ((ltrs.idxOf c : Nat) : Int).toNat 0 = (alt c : Nat) ∧ alt c ≤ 9000 := altF c hc
          refine chr_of_range (by omega) (by omega) ?_
          rw [show (([8497, 8464, 383, 84] : List Int).getD ((ltrs.idxOf c : Nat) : Int).toNat 0).toNat = alt c by rw [q1]; rfl]
          k_steps
          · rename (n : Int).fmod 12 - 10 = 0 => hz
            have hs1 : sgn c n = c := by unfold sgn; rw [if_neg (by have := fm12 n; omega), if_pos (by have := fm12 n; omega)]
            unfold Hold
            rename Fr _ _ _ _ => F3
            rename News _ _ _ _ => N3
            have N4' := newsSub (nw := [(lp, W.listOf vs.toArray nn), (ld, W.listOf ws.toArray 0)]) N3 (by kst_in)
            rw [show stL (ahd n) ++ st1 c = stL (lay1 o k n) by rw [hl1, hs1]; exact apx c]
            refine append_K (its := vs.toArray) (n := nn) F3 N4' (Upd.head fun p hp => by rcases List.mem_cons.mp hp with rfl | h; exact Nat.ne_of_lt hlt; cases h) ?_ (by simp only [sizeLine_eq, List.size_toArray]; omega)
            intro h0 F0 N0
            k_steps
            rename Fr _ _ _ _ => F9
            rename News _ _ _ _ => N9
            exact hQ0 _ _ ⟨_, _, _, _, rfl, rfl, F9, N9, by ((intro z h3; simp at h3; simp [h3])), vs ++ [_], nn + 1, _, by rw [← List.push_toArray]; exact .head _, .tail _ (.head _), StrsAre.append' hys (.cons _ _ .nil), some_int (by rw [hg1]; omega)⟩
          · rename (n : Int).fmod 12 - 10 = 1 => hz
            have hs1 : sgn c n = alt c := by unfold sgn; rw [if_neg (by have := fm12 n; omega), if_neg (by have := fm12 n; omega)]
            unfold Hold
            rename Fr _ _ _ _ => F3
            rename News _ _ _ _ => N3
            have N4' := newsSub (nw := [(lp, W.listOf vs.toArray nn), (ld, W.listOf ws.toArray 0)]) N3 (by kst_in)
            rw [apx, ← hs1, ← hl1]
            refine append_K (its := vs.toArray) (n := nn) F3 N4' (Upd.head fun p hp => by rcases List.mem_cons.mp hp with rfl | h; exact Nat.ne_of_lt hlt; cases h) ?_ (by simp only [sizeLine_eq, List.size_toArray]; omega)
            intro h0 F0 N0
            k_steps
            rename Fr _ _ _ _ => F9
            rename News _ _ _ _ => N9
            exact hQ0 _ _ ⟨_, _, _, _, rfl, rfl, F9, N9, by ((intro z h3; simp at h3; simp [h3])), vs ++ [_], nn + 1, _, by rw [← List.push_toArray]; exact .head _, .tail _ (.head _), StrsAre.append' hys (.cons _ _ .nil), some_int (by rw [hg1]; omega)⟩
end Wr50
end
section
set_option maxRecDepth 100000
set_option maxHeartbeats 4000000
namespace Wr50
open PySem PySem.W PySem.Calls PyProof.Rows
section
variable {prog : Program} {w : World} {A : Around} {E : Value → Shared → Prop} {Q : Flow → Shared → Prop} {s : Shared} {env : Env} {h₀ : Heap} {L : Addr}
/-- a while over one list that grows and one that stays -/
theorem ksw2 {σ : Type} {test : Expr} {body : List Stmt} {pos : Pos} {m₀ : PySem.Str → Option Value} {lp ld : Addr} {o1 o2 : Obj} {rest : List (Addr × Obj)} (ob : σ → Obj) (ps : σ → List (PySem.Str × Value)) (Facts : σ → Prop) (stored : List PySem.Str) (P : σ → Prop) (μ : σ → Nat) (c₀ : σ)
    (F : Fr h₀ L s.heap m₀) (N : News h₀ L s.heap ((lp, o1) :: (ld, o2) :: rest)) (e1 : ob c₀ = o1) (hf : Facts c₀) (hk : ∀ p ∈ ps c₀, m₀ p.1 = some p.2) (hp : P c₀)
    (turn : ∀ (c : σ) (u : PySem.Str → Option Value) h tk, Facts c → P c → Fr h₀ L h (kstB (fun z => if stored.contains z then u z else m₀ z) (ps c)) → News h₀ L h [(lp, ob c), (ld, o2)] →
      wpAny (model prog w) A (isTrue test env (eval test env)) (fun b s₂ =>
        if b = true then wpAny (model prog w) A (execs body env) (KswPost h₀ L s (fun c => [(lp, ob c), (ld, o2)]) ps Facts stored m₀ P μ Q c) E s₂ else Q .next s₂) E { s with heap := h, toks := tk })
    (hE : PassesOwn (model prog w) A env E := by passes_own) :
    wpAny (model prog w) A (exec (.While test body [] pos) env) Q E s := by
  refine ksw_while (fun c => [(lp, ob c), (ld, o2)]) ps Facts stored P μ c₀ F (fun p hp => N p ?_) hf hk hp turn hE
  simp only [List.mem_cons, List.not_mem_nil, or_false] at hp ⊢
  rcases hp with h | h
  · rw [e1] at h; exact Or.inl h
  · exact Or.inr (Or.inl h)
end
/-- what the turns lay down from k on -/
noncomputable def lays (o : List Nat) (m : Nat) : Nat → Nat → List (List Nat)
  | 0, _ => []
  | f + 1, k => if k < 4 then lay1 o k (m + 5 * k) :: lays o m f (go1 o k (m + 5 * k)) else []
theorem go1_ge (o : List Nat) (k n : Nat) : k + 1 ≤ go1 o k n ∧ go1 o k n ≤ k + 2 := by unfold go1; split <;> omega
theorem lay1_len (o : List Nat) (k n : Nat) : (lay1 o k n).length ≤ 2 := by
  have h : (ahd n).length ≤ 1 := by unfold ahd; split <;> simp
  unfold lay1; split <;> simp <;> omega
theorem kst_self2 {g h : Heap} {L : Addr} {mp : PySem.Str → Option Value} {ps : List (PySem.Str × Value)} (hq : ∀ p ∈ ps, mp p.1 = some p.2) (F : Fr g L h mp) : Fr g L h (kstB mp ps) := by
  have e : kstB mp ps = mp := funext fun z => kstB_eq hq fun _ => rfl
  rw [e]; exact F
/-- texts with a text between them -/
noncomputable def joinS (sep : List Nat) : List (List Nat) → List Nat
  | [] => []
  | [p] => p
  | p :: q :: r => p ++ sep ++ joinS sep (q :: r)
theorem joinS_fold (sep : List Nat) : ∀ (r : List (List Nat)) (a : Array Nat), ((r.map stL).foldl (fun acc p => acc ++ (stL sep).cps ++ p.cps) a) = (joinS sep (a.toList :: r)).toArray
  | [], a => rfl
  | p :: r, a => by
    rw [List.map_cons, List.foldl_cons, joinS_fold sep r]
    cases r with
    | nil => simp [joinS]
    | cons q r => simp [joinS]
theorem join_stL (sep : List Nat) (l : List (List Nat)) : Txt.join (stL sep) (l.map stL) = stL (joinS sep l) := by
  cases l with
  | nil => rfl
  | cons p r =>
    show (⟨((r.map stL).foldl (fun acc p => acc ++ (stL sep).cps ++ p.cps) p.toArray)⟩ : PySem.Str) = _
    rw [joinS_fold]
noncomputable def dName (o : List Nat) (m : Nat) : List Nat := joinS (List.replicate (m % 3) 34) (lays o m 4 0)
theorem mul1 (m : Nat) : Txt.mul (Str.ofString "\"") ((m : Int).fmod 3) = stL (List.replicate (m % 3) 34) := by
  rw [show (m : Int).fmod 3 = ((m % 3 : Nat) : Int) from fmN m 3]
  exact (by decide +kernel : ∀ r : Fin 3, Txt.mul (Str.ofString "\"") (r.val : Int) = stL (List.replicate r.val 34)) ⟨m % 3, Nat.mod_lt _ (by decide)⟩
theorem mul2 (m : Nat) : Txt.mul (Str.ofString "\"\"") ((m : Int).fmod 3) = stL (List.replicate (2 * (m % 3)) 34) := by
  rw [show (m : Int).fmod 3 = ((m % 3 : Nat) : Int) from fmN m 3]
  exact (by decide +kernel : ∀ r : Fin 3, Txt.mul (Str.ofString "\"\"") (r.val : Int) = stL (List.replicate (2 * r.val) 34)) ⟨m % 3, Nat.mod_lt _ (by decide)⟩
theorem lays_len (o : List Nat) (m : Nat) : ∀ f k, (lays o m f k).length ≤ f ∧ ∀ p ∈ lays o m f k, p.length ≤ 2
  | 0, _ => ⟨Nat.le_refl _, fun p hp => nomatch hp⟩
  | f + 1, k => by
    have ⟨a, b⟩ := lays_len o m f (go1 o k (m + 5 * k))
    rw [lays]
    split
    · refine ⟨by simp; exact a, fun p hp => ?_⟩
      rcases List.mem_cons.mp hp with rfl | h
      · exact lay1_len _ _ _
      · exact b p h
    · exact ⟨Nat.zero_le _, fun p hp => nomatch hp⟩
theorem sum_le (l : List (List Nat)) (h : ∀ p ∈ l, p.length ≤ 2) : ((l.map stL).map (·.length)).sum ≤ 2 * l.length := by
  induction l with
  | nil => exact Nat.le_refl _
  | cons p l ih =>
    have h1 := ih fun q hq => h q (.tail _ hq)
    have h2 := h p (.head _)
    have e : (stL p).length = p.length := by show p.toArray.size = _; simp
    simp only [List.map_cons, List.sum_cons, List.length_cons, e]
    omega
theorem joinS_len (sep : List Nat) : ∀ l : List (List Nat), (∀ p ∈ l, p.length ≤ 2) → (joinS sep l).length ≤ l.length * (2 + sep.length)
  | [], _ => Nat.zero_le _
  | [p], h => by have := h p (.head _); simp [joinS]; omega
  | p :: q :: r, h => by
    have h1 := joinS_len sep (q :: r) fun x hx => h x (.tail _ hx)
    have h2 := h p (.head _)
    rw [joinS]
    simp only [List.length_append, List.length_cons] at h1 ⊢
    rw [Nat.add_mul (r.length + 1) 1]
    omega
theorem nameL (o : List Nat) (m : Nat) : (dName o m).length ≤ 16 := by
  have h := lays_len o m 4 0
  have h1 := joinS_len (List.replicate (m % 3) 34) _ h.2
  have h2 : (List.replicate (m % 3) 34).length ≤ 2 := by simp; omega
  have h3 : (lays o m 4 0).length * (2 + (List.replicate (m % 3) 34).length) ≤ 4 * 4 := Nat.mul_le_mul h.1 (by omega)
  exact Nat.le_trans h1 h3
theorem lays_sum (o : List Nat) (m : Nat) : (((lays o m 4 0).map stL).map (·.length)).sum + ((lays o m 4 0).map stL).length * (stL (List.replicate (m % 3) 34)).length ≤ 16777216 ∧
    (((lays o m 4 0).map stL).map (·.length)).sum + ((lays o m 4 0).map stL).length * (stL (List.replicate (2 * (m % 3)) 34)).length ≤ 16777216 := by
  have h := lays_len o m 4 0
  have h1 := sum_le _ h.2
  have e : ∀ r, (stL (List.replicate r 34)).length = r := fun r => by show (List.replicate r 34).toArray.size = _; simp
  rw [e, e, List.length_map]
  have h3 : (lays o m 4 0).length * (m % 3) ≤ 4 * 2 := Nat.mul_le_mul h.1 (by omega)
  have h4 : (lays o m 4 0).length * (2 * (m % 3)) ≤ 4 * 4 := Nat.mul_le_mul h.1 (by omega)
  omega
noncomputable def dTail (m : Nat) : List Nat := if m / 3 % 2 = 0 then [] else [46, 32, 34, 102, 34]
theorem cat0 (d : List Nat) : Str.ofString "257 \"" ++ stL (esc d) ++ Str.ofString "\"" ++ Str.ofString "" = reply d [] := by
  show stL [50, 53, 55, 32, 34] ++ stL (esc d) ++ stL [34] ++ stL [] = _
  rw [stL_app, stL_app, stL_app]; simp [reply]
theorem cat1 (d : List Nat) : Str.ofString "257 \"" ++ stL (esc d) ++ Str.ofString "\"" ++ Str.ofString ". \"f\"" = reply d [46, 32, 34, 102, 34] := by
  show stL [50, 53, 55, 32, 34] ++ stL (esc d) ++ stL [34] ++ stL [46, 32, 34, 102, 34] = _
  rw [stL_app, stL_app, stL_app]; simp [reply]
theorem nameX (o : List Nat) (m : Nat) : Txt.join (stL (List.replicate (m % 3) 34)) ((lays o m 4 0).map stL) = stL (dName o m) := join_stL _ _
theorem ahd_free (n : Nat) : 34 ∉ ahd n := by
  unfold ahd; split
  · have h : ∀ i : Fin 27, hid.getD i.val 0 ≠ 34 := by decide
    have := h ⟨n / 3 % 27, Nat.mod_lt _ (by decide)⟩
    simp at this ⊢; exact fun e => this e.symm
  · simp
theorem lay1_free (o : List Nat) (ho : o ∈ perms4) (k n : Nat) (hk : k < 4) : 34 ∉ lay1 o k n := by
  have hc := (itemF o ho ⟨k, hk⟩).2
  dsimp only at hc
  have h1 := ahd_free n
  have h2 : lig (o.getD k 0) n ≠ 34 := by unfold lig; split <;> omega
  have h3 : sgn (o.getD k 0) n ≠ 34 := by
    have ha : ∀ c ∈ ltrs, c ≠ 34 ∧ alt c ≠ 34 := by decide
    have := ha _ hc
    unfold sgn; split
    · omega
    · split
      · exact this.1
      · exact this.2
  unfold lay1; split <;> simp [h1] <;> exact fun e => absurd e.symm (by assumption)
theorem lays_free (o : List Nat) (m : Nat) (ho : o ∈ perms4) : ∀ f k, ∀ p ∈ lays o m f k, 34 ∉ p
  | 0, _, p, hp => nomatch hp
  | f + 1, k, p, hp => by
    rw [lays] at hp
    split at hp
    · rename_i hk
      rcases List.mem_cons.mp hp with rfl | h
      · exact lay1_free o ho _ _ hk
      · exact lays_free o m ho f _ p h
    · cases hp
theorem esc_free : ∀ l : List Nat, 34 ∉ l → esc l = l
  | [], _ => rfl
  | c :: l, h => by
    simp at h
    have hc : ¬ c = 34 := fun e => h.1 e.symm
    simp [esc, hc, esc_free l h.2]
theorem esc_rep : ∀ r, esc (List.replicate r 34) = List.replicate (2 * r) 34
  | 0 => rfl
  | r + 1 => by
    rw [List.replicate_succ, show 2 * (r + 1) = 2 * r + 1 + 1 by omega, List.replicate_succ, List.replicate_succ, ← esc_rep r]
    rfl
theorem esc_joinS (r : Nat) : ∀ l : List (List Nat), (∀ p ∈ l, 34 ∉ p) → esc (joinS (List.replicate r 34) l) = joinS (List.replicate (2 * r) 34) l
  | [], _ => rfl
  | [p], h => esc_free p (h p (.head _))
  | p :: q :: l, h => by
    rw [joinS, joinS, esc_app, esc_app, esc_free p (h p (.head _)), esc_rep, esc_joinS r (q :: l) fun x hx => h x (.tail _ hx)]
theorem replX (o : List Nat) (m : Nat) (ho : o ∈ perms4) : Txt.join (stL (List.replicate (2 * (m % 3)) 34)) ((lays o m 4 0).map stL) = stL (esc (dName o m)) := by
  rw [dName, esc_joinS _ _ (lays_free o m ho 4 0)]
  exact join_stL _ _
theorem pc_dress (w : World) (o : List Nat) (m : Nat) (tx tm : Tok) (hm : m < 1000000) (ho : o ∈ perms4) : PC w 192 [.str (stL o) tx, .int m tm] 1 8 (fun _ => True) (fun v _ h => ∃ a t1 t2, v = .ref a ∧ IsTup h a #[.str (stL (dName o m)) t1, .str (reply (dName o m) (dTail m)) t2]) := by
  unfold PC; k_fill
  intro dp un gd frs base mean mg mb s Q E B X T hd hu hpre hret
  refine wpAny_call ?_
  refine' enter_def (binds := [("order", .str (stL o) tx), ("m", .int m tm)]) X T ?k6 ?k7 ?k8 ?k9 ?kB ?_ ?c2 ?c3 ?c4 ?c5
  case k6 => k_is
  case k7 => k_is
  case k8 => ktr_room
  case k9 => exact BindsTo.of_eq rfl
  case c5 => decide
  case kB => exact locs rfl
  case c2 => exact rfl
  case c3 => exact rfl
  case c4 => exact rfl
  intro L' h' F' N'
  try k_fold
  have hol : (stL o).length = 4 := lenF o ho
  k_with "exec While Compare cons nil" => refine hold ?_
  k_steps
  rename CarriedAll _ _ => hC
  have hj := IntsAre.ofCarried hC
  refine' kmk_add_ints ?F ?N ?a ?b ?i hj ?_ ?z
  case F => assumption
  case N => assumption
  case a => kmk_list
  case b => assumption
  case i => l_ints
  case z => simp only [sizeLine_eq]; decide
  intro D9 ws9 h9 F9 N9 l9 hI9
  have ehid : ([173, 847, 6150, 6155, 6156, 6157, 8203, 8204, 8205, 8288, 65279] : List Int) ++ rangeInts 65024 1 (65040 - 65024 : Int).toNat = hid.map (fun x : Nat => (x : Int)) := by decide
  rw [ehid] at hI9
  clear hj hC ehid
  k_steps
  unfold Hold
  rename Fr _ _ _ _ => F8
  rename News _ _ _ _ => N8
  refine' ksw2 (σ := List PySem.Str × List Value × Nat × Nat × Tok) (fun c => W.listOf c.2.1.toArray c.2.2.1) (fun c => [(Str.ofString "k", .int (c.2.2.2.1 : Nat) c.2.2.2.2)]) (fun c => StrsAre c.2.1 c.1) [Str.ofString "k", Str.ofString "n", Str.ofString "ahead"]
    (fun c => c.1.length ≤ c.2.2.2.1 ∧ ∃ f, 4 ≤ f + c.2.2.2.1 ∧ c.1 ++ (lays o m f c.2.2.2.1).map stL = (lays o m 4 0).map stL) (fun c => 4 - c.2.2.2.1) ([], [], 0, 0, _) F8 N8 rfl StrsAre.nil ?hk ?hp ?turn
  case hk => kst_all
  case hp => exact ⟨Nat.le_refl _, 4, Nat.le_refl _, rfl⟩
  case turn =>
    rintro ⟨ys, vs, nn, k, tk1⟩ u h8 tk8 hys ⟨hyk, f, hf, hinv⟩ F7 N7
    dsimp only at hyk hf hinv hys F7 N7 ⊢
    k_with "execs cons" => refine hold ?_
    k_steps
    · unfold Hold
      k_with_none
      rename ((_ : Nat) : Int) < 4 => hk4
      have F6 := kst_self2 (ps := [(Str.ofString "order", .str (stL o) tx), (Str.ofString "m", .int m tm), (Str.ofString "hidden", .ref D9), (Str.ofString "pieces", .ref _), (Str.ofString "k", .int k tk1)]) (by kst_all) F7
      have hyl := hys.length
      refine wpAny_mono (dress_turn w o m tx tm hm ho dp un gd frs base s.heap mean mg mb B X T hd hu L' _ D9 ws9 vs ys nn k tk1 (by omega) _ _ _ hI9 hys (by omega) ?hlt F6 N7) ?_ (fun _ _ h => h)
      case hlt => rename (D9 < _ ∧ _ < _) => hlt; exact hlt.1
      rintro _ _ ⟨h1, k1, m1, nw1, rfl, rfl, F5, N5, hsame, vs1, nn1, t1, hm1, hm2, hys1, hk1⟩
      have ⟨g1, g2⟩ := go1_ge o k (m + 5 * k)
      obtain ⟨f, rfl⟩ : ∃ f', f = f' + 1 := ⟨f - 1, by omega⟩
      refine ksw_end ⟨ys ++ [stL (lay1 o k (m + 5 * k))], vs1, nn1, go1 o k (m + 5 * k), t1⟩ F5 N5 ?_ hys1 ?_ ?_ ⟨?_, f, ?_, ?_⟩ ?_
      · intro p hp
        rcases List.mem_cons.mp hp with rfl | h
        · exact hm1
        · rcases List.mem_cons.mp h with rfl | h
          · exact hm2
          · cases h
      · intro p hp
        rcases List.mem_cons.mp hp with rfl | h
        · exact hk1
        · cases h
      · intro z h2 h3
        refine (hsame z h3).trans ((kstB_eq (by kst_all) fun _ => rfl).trans ?_)
        simp at h2 h3
        simp [kstB, h2, h3]
      · simp only [List.length_append, List.length_cons, List.length_nil]; omega
      · dsimp only; omega
      · rw [← hinv, lays, if_pos (by omega)]; simp
      · dsimp only; omega
    · unfold Hold
      k_with_none
      rename ¬ ((_ : Nat) : Int) < 4 => hk4
      have hly : ys = (lays o m 4 0).map stL := by
        have e : lays o m f k = [] := by cases f with
          | zero => rfl
          | succ f => rw [lays, if_neg (by omega)]
        rw [← hinv, e]; simp
      clear hinv
      subst hly
      have hsz := lays_sum o m
      have hm1 := mul1 m
      have hm2 := mul2 m
      have hnx := nameX o m
      have hrx := replX o m ho
      have hdl := nameL o m
      have hel := esc_len (dName o m)
      have hd1 : (stL (dName o m)).length ≤ 20 := by show (_ : List Nat).toArray.size ≤ _; rw [List.size_toArray]; omega
      have he1 : (stL (esc (dName o m))).length ≤ 40 := by show (_ : List Nat).toArray.size ≤ _; rw [List.size_toArray]; omega
      have en2 : ((m : Int).fdiv 3).fmod 2 = ((m / 3 % 2 : Nat) : Int) := by rw [show (m : Int).fdiv 3 = ((m / 3 : Nat) : Int) from fdN m 3]; exact fmN _ 2
      generalize hdn : dName o m = dn at *
      k_with "call builtin:str.join" => refine hold ?_
      k_steps
      unfold Hold
      rw [hm1]
      refine join_list (News.isList N7 (.head _)) hys hsz.1 ?_
      rw [hnx]
      intro t5 k5
      k_steps
      unfold Hold
      rw [hm2]
      refine join_list (News.isList N7 (.head _)) hys hsz.2 ?_
      rw [hrx]
      intro t4 k4
      k_with_none
      k_steps
      · rename ((m : Int).fdiv 3).fmod 2 = 0 => hz
        rename News _ _ _ _ => N3
        have et : dTail m = [] := if_pos (by omega)
        rw [(cat0 dn).trans (show _ = reply dn (dTail m) by rw [et])] at N3
        exact hret _ _ _ (Fr.keep (by assumption)) ⟨_, _, _, rfl, _, (N3 _ (.head _)).1, rfl, _, rfl⟩
      · rename ((m : Int).fdiv 3).fmod 2 = 1 => hz
        rename News _ _ _ _ => N3
        have et : dTail m = [46, 32, 34, 102, 34] := if_neg (by omega)
        rw [(cat1 dn).trans (show _ = reply dn (dTail m) by rw [et])] at N3
        exact hret _ _ _ (Fr.keep (by assumption)) ⟨_, _, _, rfl, _, (N3 _ (.head _)).1, rfl, _, rfl⟩
end Wr50
end
section
set_option maxRecDepth 100000
set_option maxHeartbeats 4000000
namespace Wr50
open PySem PySem.W PySem.Calls PyProof.Rows
/-- a list of strs -/
noncomputable abbrev IsStrs (h : Heap) (la : Addr) (l : List PySem.Str) : Prop := ∃ vs, h.IsList la vs.toArray ∧ StrsAre vs l
/-- an iterator's turns, from a state on that has given tb tokens -/
structure KTb (tb : Nat) (prog : Program) (w : World) (A : Around) (target : Expr) (I : Addr) (fp wr : List Addr) (n : Nat) (P Md : Nat → Value → Heap → Prop) (St : Nat → Heap → Prop) : Prop where
  sub : ∀ b ∈ wr, b ∈ fp
  frame : ∀ i h h', St i h → (∀ b ∈ fp, ∀ o, h.get? b = some o → h'.get? b = some o) → St i h'
  item : ∀ i (s : Shared) (Q : Option Value → Shared → Prop) (E : Value → Shared → Prop), i < n → tb ≤ s.toks → St i s.heap →
    (∀ v h' tk, Md i v h' → (∀ b o, b ∉ wr → s.heap.get? b = some o → h'.get? b = some o) → Q (some v) { s with heap := h', toks := tk }) → wpAny (model prog w) A (pyNext (.ref I)) Q E s
  go : ∀ i v (s : Shared) (Q : Unit → Shared → Prop) (E : Value → Shared → Prop), Md i v s.heap →
    (∀ h', P i v h' → St (i + 1) h' → (∀ b o, b ∉ wr → s.heap.get? b = some o → h'.get? b = some o) → Q () { s with heap := h' }) → wpAny (model prog w) A (letOwnedTupleGo target (.ref I) v) Q E s
  done : ∀ (s : Shared) (Q : Option Value → Shared → Prop) (E : Value → Shared → Prop), St n s.heap →
    (∀ h' tk, (∀ b o, b ∉ wr → s.heap.get? b = some o → h'.get? b = some o) → Q none { s with heap := h', toks := tk }) → wpAny (model prog w) A (pyNext (.ref I)) Q E s
theorem KTb.of {tb : Nat} {prog : Program} {w : World} {A : Around} {target : Expr} {I : Addr} {fp wr : List Addr} {n : Nat} {P Md : Nat → Value → Heap → Prop} {St : Nat → Heap → Prop} (W : KTurns prog w A target I fp wr n P Md St) : KTb tb prog w A target I fp wr n P Md St :=
  ⟨W.sub, W.frame, fun i s Q E hi _ st h => W.item i s Q E hi st h, W.go, W.done⟩
section
variable {prog : Program} {w : World} {A : Around} {E : Value → Shared → Prop} {s : Shared} {env : Env} {h₀ : Heap} {target test : Expr} {body orelse : List Stmt} {Q : Flow → Shared → Prop}
/-- what a turn leaves: the ledger of the state c', the iterator's own objects, the names -/
noncomputable def ForEnd {σ : Type} (h₀ : Heap) (L : Addr) (s : Shared) (its : List (Addr × Obj)) (Led : σ → List (Addr × Obj)) (ps : σ → List (PySem.Str × Value)) (stored : List PySem.Str) (m₀ : PySem.Str → Option Value) (P : σ → Prop) (s₃ : Shared) : Prop :=
  ∃ (c' : σ) (h' : Heap) (tk : Nat) (m' : PySem.Str → Option Value) (news' : List (Addr × Obj)), s₃ = { s with heap := h', toks := tk } ∧ Fr h₀ L h' m' ∧ News h₀ L h' news' ∧ (∀ p ∈ its ++ Led c', p ∈ news') ∧ (∀ p ∈ ps c', m' p.1 = some p.2) ∧ (∀ z, (∀ p ∈ ps c', z ≠ p.1) → stored.contains z = false → m' z = m₀ z) ∧ P c'
noncomputable def ForPost {σ : Type} (h₀ : Heap) (L : Addr) (s : Shared) (its : List (Addr × Obj)) (Led : σ → List (Addr × Obj)) (ps : σ → List (PySem.Str × Value)) (stored : List PySem.Str) (m₀ : PySem.Str → Option Value) (P : σ → Prop) (Q : Flow → Shared → Prop) (f : Flow) (s₃ : Shared) : Prop :=
  match f with
  | .ret v => Q (.ret v) s₃
  | .brk => Q .next s₃
  | _ => ForEnd h₀ L s its Led ps stored m₀ P s₃
theorem for_end {σ : Type} {L : Addr} {its : List (Addr × Obj)} {Led : σ → List (Addr × Obj)} {ps : σ → List (PySem.Str × Value)} {stored : List PySem.Str} {m₀ m' : PySem.Str → Option Value} {P : σ → Prop} {h' : Heap} {tk : Nat} {news' : List (Addr × Obj)} (c' : σ)
    (F : Fr h₀ L h' m') (N : News h₀ L h' news') (hn : ∀ p ∈ its ++ Led c', p ∈ news') (hk : ∀ p ∈ ps c', m' p.1 = some p.2) (hr : ∀ z, (∀ p ∈ ps c', z ≠ p.1) → stored.contains z = false → m' z = m₀ z) (hp : P c') :
    ForEnd h₀ L s its Led ps stored m₀ P { s with heap := h', toks := tk } := ⟨c', h', tk, m', news', rfl, F, N, hn, hk, hr, hp⟩
/-- a loop over any iterator: what its turns change, the state c; no token is given twice -/
theorem for_T {σ : Type} {I : Addr} {fp wr : List Addr} {n : Nat} {Pv Md : Nat → Value → Heap → Prop} {St : Nat → Heap → Prop} {m₀ : PySem.Str → Option Value} {ws : List (Addr × String)} (tb : Nat) (as : List Addr)
    (Led : σ → List (Addr × Obj)) (ps : σ → List (PySem.Str × Value)) (stored : List PySem.Str) (P : Nat → σ → Prop) (c₀ : σ)
    (W : KTb tb prog w A target I fp wr n Pv Md St) (htb : tb ≤ s.toks) (hst : St 0 s.heap) (F : Fr h₀ env.locals s.heap m₀) (N : News h₀ env.locals s.heap (Led c₀)) (hk : ∀ p ∈ ps c₀, m₀ p.1 = some p.2) (hp : P 0 c₀)
    (has : ∀ c, ∀ p ∈ Led c, p.1 ∈ as) (hapart : ∀ a ∈ as, a ∉ ws.map (·.1))
    (hwr : ∀ b ∈ wr, b ∈ ws.map (·.1)) (hws : ∀ b ∈ ws.map (·.1), h₀.get? b = none ∧ b ≠ env.locals)
    (hfp : ∀ b ∈ fp, b ∈ ws.map (·.1) ∨ (∃ o, h₀.get? b = some o) ∨ ∃ o, ∀ c, (b, o) ∈ Led c)
    (hobj : ∀ i h, St i h → ∃ its, Objs ws its ∧ ∀ p ∈ its, h.get? p.1 = some p.2)
    (turn : ∀ (i : Nat) (v : Value) (c : σ) (u : PySem.Str → Option Value) (h : Heap) (tk : Nat) (its : List (Addr × Obj)), i < n → P i c → Pv i v h → tb ≤ tk → Objs ws its →
      Fr h₀ env.locals h (kstB (fun z => if stored.contains z then u z else m₀ z) (ps c)) → News h₀ env.locals h (its ++ Led c) →
      wpAny (model prog w) A (assign target env v) (fun _ s₂ => wpAny (model prog w) A (execs body env) (ForPost h₀ env.locals s its Led ps stored m₀ (P (i + 1)) Q) E s₂) E { s with heap := h, toks := tk })
    (done : ∀ (c : σ) (u : PySem.Str → Option Value) (h : Heap) (tk : Nat), P n c → tb ≤ tk → Fr h₀ env.locals h (kstB (fun z => if stored.contains z then u z else m₀ z) (ps c)) → News h₀ env.locals h (Led c) →
      wpAny (model prog w) A (execs orelse env) Q E { s with heap := h, toks := tk })
    (hE : PassesOwn (model prog w) A env E := by passes_own) :
    codeAny (model prog w) A (.forLoop target (.ref I) body orelse env) (fun r s' => match r with | .ok f => Q f s' | .error e => cameBackBy (model prog w) A env E e s') s := by
  have off : ∀ b, b ∈ wr → h₀.get? b = none ∧ b ≠ env.locals := fun b hb => hws b (hwr b hb)
  have go : ∀ (h h' : Heap) (m : PySem.Str → Option Value), Fr h₀ env.locals h m → (∀ b o, b ∉ wr → h.get? b = some o → h'.get? b = some o) → Fr h₀ env.locals h' m := fun h h' m F hk =>
    ⟨F.ns.at' fun o e => hk _ o (fun hb => (off _ hb).2 rfl) e, fun b o e => hk b o (fun hb => by rw [(off b hb).1] at e; cases e) (F.keep b o e), F.above⟩
  have goN : ∀ (h h' : Heap) (c : σ), News h₀ env.locals h (Led c) → (∀ b o, b ∉ wr → h.get? b = some o → h'.get? b = some o) → News h₀ env.locals h' (Led c) := fun h h' c N hk p hp =>
    ⟨hk _ _ (fun hb => hapart _ (has c p hp) (hwr _ hb)) (N p hp).1, (N p hp).2⟩
  refine codeAny_forLoop_any (fun k s' => ∃ (c : σ) (h' : Heap) (tk : Nat) (u : PySem.Str → Option Value) (i : Nat), s' = { s with heap := h', toks := tk } ∧ tb ≤ tk ∧ St i h' ∧ Fr h₀ env.locals h' (kstB (fun z => if stored.contains z then u z else m₀ z) (ps c)) ∧ News h₀ env.locals h' (Led c) ∧ P i c ∧ i ≤ n ∧ k = n - i) ?_ n
    ⟨c₀, s.heap, s.toks, m₀, 0, rfl, htb, hst, ?_, N, hp, Nat.zero_le _, rfl⟩
  · rintro k s' ⟨c, h', tk, u, i, rfl, htk, hst', F', N', hJ, hi, rfl⟩
    by_cases hlt : i < n
    · refine wpAny_mono (wpAny_with_toks (n := tb) htk (W.item i _ _ _ hlt htk hst' fun v h₁ tk₁ hMd hk₁ htk₁ => ?_)) (fun _ _ x => x) (fun _ _ x => x)
      refine W.go i v _ _ _ hMd fun h₂ hP hst₂ hk₂ => ?_
      have hk12 : ∀ b o, b ∉ wr → h'.get? b = some o → h₂.get? b = some o := fun b o hb x => hk₂ b o hb (hk₁ b o hb x)
      have F₂ := go _ _ _ F' hk12
      have N₂ := goN _ _ _ N' hk12
      obtain ⟨its, hits, hval⟩ := hobj _ _ hst₂
      have hmap := hits.map
      have N₃ : News h₀ env.locals h₂ (its ++ Led c) := fun p hp => by
        rcases List.mem_append.mp hp with hp | hp
        · have hb : p.1 ∈ ws.map (·.1) := by rw [← hmap]; exact List.mem_map.mpr ⟨p, hp, rfl⟩
          exact ⟨hval p hp, (hws _ hb).2, (hws _ hb).1⟩
        · exact N₂ p hp
      have fin : ∀ s₃, tb ≤ s₃.toks → ForEnd h₀ env.locals s its Led ps stored m₀ (P (i + 1)) s₃ →
          ∃ m, m < n - i ∧ ∃ (c : σ) (h' : Heap) (tk : Nat) (u : PySem.Str → Option Value) (i : Nat), s₃ = { s with heap := h', toks := tk } ∧ tb ≤ tk ∧ St i h' ∧ Fr h₀ env.locals h' (kstB (fun z => if stored.contains z then u z else m₀ z) (ps c)) ∧ News h₀ env.locals h' (Led c) ∧ P i c ∧ i ≤ n ∧ m = n - i := by
        rintro s₃ htk₃ ⟨c', h₃, tk₃, m₃, news₃, rfl, F₃, N₃', hn, hk₃, hr₃, hJ'⟩
        refine ⟨n - (i + 1), by omega, c', h₃, tk₃, m₃, i + 1, rfl, htk₃, W.frame _ _ _ hst₂ fun b hb o x => ?_, ksw_fr hk₃ hr₃ F₃, fun p hp => N₃' p (hn p (List.mem_append_right _ hp)), hJ', hlt, rfl⟩
        rcases hfp b hb with h | ⟨o', h⟩ | ⟨o', h⟩
        · rw [← hmap] at h
          obtain ⟨p, hp, rfl⟩ := List.mem_map.mp h
          have e1 := hval p hp
          rw [x] at e1
          rw [Option.some.inj e1]
          exact (N₃' p (hn p (List.mem_append_left _ hp))).1
        · have e1 := F₂.keep b o' h
          rw [x] at e1
          rw [Option.some.inj e1]
          exact F₃.keep b o' h
        · have e1 := (N₂ _ (h c)).1
          rw [x] at e1
          rw [Option.some.inj e1]
          exact (N₃' _ (hn _ (List.mem_append_right _ (h c')))).1
      refine wpAny_mono (wpAny_toks_of (n := tb) htk₁ (turn i v c u h₂ tk₁ its hlt hJ hP htk₁ hits F₂ N₃)) (fun _ s₂ p => ?_) fun e s' x => hE e s' x.2
      refine wpAny_mono (wpAny_passesOwn hE (wpAny_mono (wpAny_toks_of (n := tb) p.1 p.2) (fun _ _ x => x) fun _ _ x => x.2)) (fun f s₃ q => ?_) fun _ _ x => x
      cases f with
      | ret v => exact q.2
      | brk => exact q.2
      | next => exact fin _ q.1 q.2
      | cont => exact fin _ q.1 q.2
    · have hin : i = n := by omega
      subst hin
      refine wpAny_with_toks (n := tb) htk (W.done _ _ _ hst' fun h₁ tk₁ hk₁ htk₁ => ?_)
      exact wpAny_passesOwn hE (done c u h₁ tk₁ hJ htk₁ (go _ _ _ F' hk₁) (goN _ _ _ N' hk₁))
  · refine kst_self (mp := fun z => if stored.contains z then m₀ z else m₀ z) (ps := ps c₀) (by simpa using hk) (by simpa using F)
/-- what a turn of a while leaves -/
noncomputable def WhPost {σ : Type} (h₀ : Heap) (L : Addr) (s : Shared) (Led : σ → List (Addr × Obj)) (ps : σ → List (PySem.Str × Value)) (stored : List PySem.Str) (m₀ : PySem.Str → Option Value) (P : σ → Prop) (Q : Flow → Shared → Prop) (f : Flow) (s₃ : Shared) : Prop :=
  match f with
  | .ret v => Q (.ret v) s₃
  | .brk => Q .next s₃
  | _ => ForEnd h₀ L s [] Led ps stored m₀ P s₃
/-- a while: what its turns change, the state c; its measure; no token is given twice -/
theorem while_T {σ : Type} {pos : Pos} {m₀ : PySem.Str → Option Value} (tb : Nat) (Led : σ → List (Addr × Obj)) (ps : σ → List (PySem.Str × Value)) (stored : List PySem.Str) (P : σ → Prop) (μ : σ → Nat) (c₀ : σ)
    (htb : tb ≤ s.toks) (F : Fr h₀ env.locals s.heap m₀) (N : News h₀ env.locals s.heap (Led c₀)) (hk : ∀ p ∈ ps c₀, m₀ p.1 = some p.2) (hp : P c₀)
    (turn : ∀ (c : σ) (u : PySem.Str → Option Value) (h : Heap) (tk : Nat), P c → tb ≤ tk → Fr h₀ env.locals h (kstB (fun z => if stored.contains z then u z else m₀ z) (ps c)) → News h₀ env.locals h (Led c) →
      wpAny (model prog w) A (isTrue test env (eval test env)) (fun b s₂ =>
        if b = true then wpAny (model prog w) A (execs body env) (WhPost h₀ env.locals s Led ps stored m₀ (fun c' => P c' ∧ μ c' < μ c) Q) E s₂ else Q .next s₂) E { s with heap := h, toks := tk })
    (hE : PassesOwn (model prog w) A env E := by passes_own) :
    wpAny (model prog w) A (exec (.While test body [] pos) env) Q E s := by
  refine whl_start 1 ?_
  have main : ∀ (k : Nat) (c : σ) (u : PySem.Str → Option Value) (h : Heap) (tk : Nat), μ c < k → P c → tb ≤ tk → Fr h₀ env.locals h (kstB (fun z => if stored.contains z then u z else m₀ z) (ps c)) → News h₀ env.locals h (Led c) →
      WhlRest prog w A E env test body [] Q 0 { s with heap := h, toks := tk } := by
    intro k
    induction k with
    | zero => intro c u h tk hk; omega
    | succ k ih =>
      intro c u h tk hk hP htk F' N'
      show WhlRest prog w A E env test body [] Q (0 + 1) { s with heap := h, toks := tk }
      refine whl_turn hE ?_
      refine wpAny_mono (wpAny_toks_of (n := tb) htk (turn c u h tk hP htk F' N')) (fun b s₂ p => ?_) fun _ _ x => x.2
      obtain ⟨ht₂, p⟩ := p
      cases b with
      | false => exact WhlIf.no rfl (wpAny_execs_nil (by simpa using p))
      | true =>
        refine WhlIf.yes rfl ?_
        simp only [if_true] at p
        refine wpAny_mono (wpAny_toks_of (n := tb) ht₂ p) (fun f s₃ q => ?_) fun _ _ x => x.2
        obtain ⟨ht₃, q⟩ := q
        have fin : ForEnd h₀ env.locals s [] Led ps stored m₀ (fun c' => P c' ∧ μ c' < μ c) s₃ → WhlRest prog w A E env test body [] Q 0 s₃ := by
          rintro ⟨c', h', tk', m', news', rfl, F₃, N₃, hn, hk₃, hr₃, hP', hm⟩
          exact ih c' m' h' tk' (by omega) hP' ht₃ (ksw_fr hk₃ hr₃ F₃) fun p hp => N₃ p (hn p hp)
        cases f with
        | ret v => exact q
        | brk => exact q
        | next => exact fin q
        | cont => exact fin q
  exact main (μ c₀ + 1) c₀ m₀ s.heap s.toks (Nat.lt_succ_self _) hp htb (kst_self (mp := fun z => if stored.contains z then m₀ z else m₀ z) (ps := ps c₀) (by simpa using hk) (by simpa using F)) N
end
end Wr50
end
section
set_option maxRecDepth 100000
set_option maxHeartbeats 4000000
namespace Wr50
open PySem PySem.W PySem.Calls PyProof.Rows
/-- a contract that knows how many tokens are given -/
noncomputable def PT (w : World) (f : Addr) (vs : List Value) (dep un₀ : Nat) (pre : Shared → Prop) (post : Value → Heap → Heap → Prop) : Prop :=
  ∀ (dp un : Nat) (gd : Option (List Code)) (frs : List Env) (base : Heap) (mean : ExcName → Option Value) (mg mb : PySem.Str → Option Value) (s : Shared) (Q E : Value → Shared → Prop),
    Below (ar dp un gd frs) base frs s.heap → (KF w.params).In s.heap → Top qv lo mean mg mb s.heap → dp + dep < recursionLimit → un + un₀ < cLine → pre s →
    (∀ v h' tk', (∀ b o, s.heap.get? b = some o → h'.get? b = some o) → post v s.heap h' → s.toks ≤ tk' → Q v { s with heap := h', toks := tk' }) →
    wpAny (model PySem.Challenge.rw_wr0050_01.prog w) (ar dp un gd frs) (call (.ref f) vs) Q E s
/-- the same without a word of the tokens behind it -/
noncomputable def PS (w : World) (f : Addr) (vs : List Value) (dep un₀ : Nat) (pre : Shared → Prop) (post : Value → Heap → Heap → Prop) : Prop :=
  ∀ (dp un : Nat) (gd : Option (List Code)) (frs : List Env) (base : Heap) (mean : ExcName → Option Value) (mg mb : PySem.Str → Option Value) (s : Shared) (Q E : Value → Shared → Prop),
    Below (ar dp un gd frs) base frs s.heap → (KF w.params).In s.heap → Top qv lo mean mg mb s.heap → dp + dep < recursionLimit → un + un₀ < cLine → pre s →
    (∀ v h' tk', (∀ b o, s.heap.get? b = some o → h'.get? b = some o) → post v s.heap h' → Q v { s with heap := h', toks := tk' }) →
    wpAny (model PySem.Challenge.rw_wr0050_01.prog w) (ar dp un gd frs) (call (.ref f) vs) Q E s
theorem PS.toT {w : World} {f : Addr} {vs : List Value} {d u : Nat} {pre : Shared → Prop} {post : Value → Heap → Heap → Prop} (C : PS w f vs d u pre post) : PT w f vs d u pre post :=
  fun dp un gd frs base mean mg mb s Q E B X T hd hu hp h => wpAny_with_toks (Nat.le_refl _) (C dp un gd frs base mean mg mb s _ _ B X T hd hu hp fun v h' tk' k p ht => h v h' tk' k p ht)
theorem PC.toT {w : World} {f : Addr} {vs : List Value} {d u : Nat} {pre : Heap → Prop} {post : Value → Heap → Heap → Prop} (C : PC w f vs d u pre post) : PT w f vs d u (fun s => pre s.heap) post :=
  fun dp un gd frs base mean mg mb s Q E B X T hd hu hp h => wpAny_with_toks (Nat.le_refl _) (C dp un gd frs base mean mg mb s _ _ B X T hd hu hp fun v h' tk' k p ht => h v h' tk' k p ht)
section
variable {w : World} {f : Addr} {vs : List Value} {d u : Nat} {pre : Shared → Prop} {post : Value → Heap → Heap → Prop} {dp un : Nat} {gd : Option (List Code)} {frs : List Env} {base g : Heap} {mean : ExcName → Option Value} {mg mb : PySem.Str → Option Value}
  {env : Env} {L : Addr} {m : PySem.Str → Option Value} {news : List (Addr × Obj)} {s : Shared} {Q E : Value → Shared → Prop}
/-- such a contract at a call that stands in a def's own frame -/
theorem useT (C : PT w f vs d u pre post) (B : Below (ar dp un gd frs) base frs g) (F : Fr g L s.heap m) (N : News g L s.heap news) (X : (KF w.params).In g) (T : Top qv lo mean mg mb g)
    (hf : env.frame = some L) (hk : env.scope.kind = .function) (hd : dp + 1 + d < recursionLimit) (hu : un + 3 + u < cLine) (hpre : pre s)
    (h : ∀ v h' tk', Fr g L h' m → News g L h' news → (∀ b o, s.heap.get? b = some o → h'.get? b = some o) → post v s.heap h' → s.toks ≤ tk' → Q v { s with heap := h', toks := tk' }) :
    wpAny (model PySem.Challenge.rw_wr0050_01.prog w) ((ar dp un gd frs).deeper env) (call (.ref f) vs) Q E s :=
  C (dp + 1) (un + 3) gd (env :: frs) base mean mg mb s Q E (pushX B F hf hk) (X.keeps F.keep) (T.keeps F.keep) hd hu hpre fun v h' tk' k p ht => h v h' tk' (F.keeps k) (N.grown k) k p ht
end
/-! two strs asked whether they are one -/
theorem booked (P : PySem.Params) {h : Heap} (X : (KF P).In h) : NoneBooked h := by
  have ho := X 2 _ (by with_unfolding_all rfl)
  refine ⟨_, ⟨_, _, _, ho, rfl, ?_, fun _ => rfl⟩, ?_⟩
  · intro e he
    simp only [List.mem_toArray, List.mem_cons, List.not_mem_nil, or_false] at he
    rcases he with rfl | rfl <;> exact ⟨_, _, rfl⟩
  · kernel_rfl
section
variable {M : Model} {A : Around} {E : Value → Shared → Prop} {s : Shared}
theorem tok0 {u v : Tok} (h0 : 0 < u) (h1 : 0 < v) : (u == 0 || v == 0) = false := by
  rw [Bool.or_eq_false_iff]; exact ⟨beq_eq_false_iff_ne.mpr (Nat.ne_of_gt h0), beq_eq_false_iff_ne.mpr (Nat.ne_of_gt h1)⟩
theorem isSame_str {y z : PySem.Str} {u v : Tok} {Q : Bool → Shared → Prop} (h0 : 0 < u) (h1 : 0 < v) (hne : y ≠ z → u ≠ v) (hb : NoneBooked s.heap) (hq : ∀ b, (b = true → y = z) → Q b s) : wpAny M A (isSame (.str y u) (.str z v)) Q E s := by
  by_cases e : y = z
  · exact wpAny_isSame_str (tok0 h0 h1) hb fun b => hq b fun _ => e
  · rw [isSame_str_other y z u v (tok0 h0 h1) (by simpa using hne e) (by simpa using e)]
    exact wpAny_pure (hq _ (by simp))
theorem is_str {y z : PySem.Str} {u v : Tok} {Q : Value → Shared → Prop} (h0 : 0 < u) (h1 : 0 < v) (hne : y ≠ z → u ≠ v) (hb : NoneBooked s.heap) (hq : ∀ b, (b = true → y = z) → Q (.bool b) s) : wpAny M A (compareOp .Is (.str y u) (.str z v)) Q E s := by
  show wpAny M A (isSame (.str y u) (.str z v) >>= fun b => pure (Value.bool b)) Q E s
  exact wpAny_bind (isSame_str h0 h1 hne hb fun b h => wpAny_pure (hq b h))
end
end Wr50
end
section
set_option maxRecDepth 100000
set_option maxHeartbeats 4000000
namespace Wr50
open PySem PySem.W PySem.Calls PyProof.Rows
section
variable {prog : Program} {w : World} {A : Around} {E : Value → Shared → Prop} {s : Shared}
/-- a numbering over a text's signs gives a sign that has a token of its own -/
theorem enum_sign {e it : Addr} {x : PySem.Str} {t : Tok} {i c : Nat} {old : Value} {Q : Option Value → Shared → Prop} (he : IsEnum s.heap e it i old) (hst : s.heap.IsStrIter it "str_ascii_iterator" x t i) (hx : x.cps[i]? = some c) (hne : e ≠ it)
    (hQ : ∀ h' u tk, s.toks ≤ u → IsEnumOut h' e it ((i : Int) + 1) (.str ⟨#[c]⟩ u) s.heap.objs.size → h'.IsStrIter it "str_ascii_iterator" x t (i + 1) →
      h'.get? s.heap.objs.size = some { cls := .type "tuple", data := .seq #[.int i tk, .str ⟨#[c]⟩ u] } → (∀ b o, b ≠ e → b ≠ it → s.heap.get? b = some o → h'.get? b = some o) → Q (some (.ref s.heap.objs.size)) { s with heap := h', toks := tk + 1 }) :
    wpAny (model prog w) A (pyNext (.ref e)) Q E s := by
  have hT : s.TypeIs (.ref e) "enumerate" := ⟨_, he, rfl⟩
  unfold pyNext
  refine wpAny_bind (wpAny_attempt (wpAny_callSpecial?_slot (name := Str.ofString "__next__") hT F.slot_enumerate_next
    (wpAny_call_entry F.slot_enumerate_next hT F.entry_enumerate_next ?_ (F.args_enumerate_next_1 _))))
  obtain ⟨h, g, d, tk, os⟩ := s
  show wpAny _ _ (field (.ref e) 2 >>= _) _ _ _
  refine wpAny_bind (wpAny_field he rfl (x := .ref it) rfl (wpAny_bind (wpAny_nextOf_ascii_item hst hx fun h1 st1 b1 => ?_)))
  have he1 : IsEnum h1 e it i old := (b1.2 e hne).trans he
  show wpAny _ _ (field (.ref e) 3 >>= _) _ _ ⟨h1, g, d, tk + 1, os⟩
  refine wpAny_bind (wpAny_field he1 rfl (x := rawInt i) rfl ?_)
  show wpAny _ _ (field (.ref e) 4 >>= _) _ _ ⟨h1, g, d, tk + 1, os⟩
  refine wpAny_bind (wpAny_field he1 rfl (x := .none) rfl ?_)
  show wpAny _ _ (mkInt i >>= _) _ _ ⟨h1, g, d, tk + 1, os⟩
  refine wpAny_bind (wpAny_mkInt ?_)
  show wpAny _ _ (setField (.ref e) 3 (rawInt ((i : Int) + 1)) >>= _) _ _ ⟨h1, g, d, tk + 1 + 1, os⟩
  refine wpAny_bind (wpAny_setField_rec he1 (by simp) fun h2 he2 b2 => ?_)
  replace he2 : IsEnum h2 e it ((i : Int) + 1) old := he2
  show wpAny _ _ (setField (.ref e) 4 .none >>= _) _ _ ⟨h2, g, d, tk + 1 + 1, os⟩
  refine wpAny_bind (wpAny_setField_rec he2 (by simp) fun h3 he3 b3 => ?_)
  replace he3 : IsEnum h3 e it ((i : Int) + 1) old := he3
  show wpAny _ _ (newTuple [.int i (tk + 1), .str ⟨#[c]⟩ tk] >>= _) _ _ ⟨h3, g, d, tk + 1 + 1, os⟩
  refine wpAny_bind (wpAny_newTuple ?_)
  have z3 : h3.objs.size = h.objs.size := by rw [b3.1, b2.1]; exact b1.1
  have he4 : IsEnum (h3.push { cls := .type "tuple", data := .seq #[.int i (tk + 1), .str ⟨#[c]⟩ tk] }) e it ((i : Int) + 1) old := Heap.get?_push_of_some _ he3
  have t4 : (h3.push { cls := .type "tuple", data := .seq #[.int i (tk + 1), .str ⟨#[c]⟩ tk] }).get? h.objs.size = some { cls := .type "tuple", data := .seq #[.int i (tk + 1), .str ⟨#[c]⟩ tk] } := by rw [← z3]; exact Heap.get?_push_size _ rfl
  have k4 : ∀ b o, b ≠ e → h1.get? b = some o → (h3.push { cls := .type "tuple", data := .seq #[.int i (tk + 1), .str ⟨#[c]⟩ tk] }).get? b = some o := fun b o hb q =>
    Heap.get?_push_of_some _ (b3.extBut b o hb (b2.extBut b o hb q))
  generalize h3.push { cls := .type "tuple", data := .seq #[.int i (tk + 1), .str ⟨#[c]⟩ tk] } = h4 at he4 t4 k4 ⊢
  rw [z3]
  have hez : h.objs.size ≠ e := Nat.ne_of_gt (Heap.lt_size he)
  show wpAny _ _ (Builtin.SmallTypes.ownedTupleIsFree (.ref e) >>= _) _ _ ⟨h4, g, d, tk + 1 + 1, os⟩
  refine wpAny_bind ?_
  unfold Builtin.SmallTypes.ownedTupleIsFree
  refine wpAny_bind (wpAny_field he4 rfl (x := .none) rfl (wpAny_pure ?_))
  simp only [if_true]
  refine wpAny_bind (wpAny_rule (wpAny_bind (wpAny_field he4 rfl (x := old) rfl (wpAny_bind (wpAny_setField_rec he4 (by simp) fun h5 he5 b5 => ?_)))))
  replace he5 : IsEnum h5 e it ((i : Int) + 1) (.str ⟨#[c]⟩ tk) := he5
  show wpAny _ _ (Builtin.SmallTypes.ownedTupleHandOut (.ref e) (.ref h.objs.size) >>= _) _ _ ⟨h5, g, d, tk + 1 + 1, os⟩
  refine wpAny_bind ?_
  unfold Builtin.SmallTypes.ownedTupleHandOut
  refine wpAny_bind (wpAny_setField_rec he5 (by simp) fun h6 he6 b6 => ?_)
  replace he6 : IsEnumOut h6 e it ((i : Int) + 1) (.str ⟨#[c]⟩ tk) h.objs.size := he6
  refine wpAny_setField_rec he6 (by simp) fun h7 he7 b7 => ?_
  have k7 : ∀ b o, b ≠ e → h4.get? b = some o → h7.get? b = some o := fun b o hb q => b7.extBut b o hb (b6.extBut b o hb (b5.extBut b o hb q))
  refine wpAny_bind (wpAny_letGo (wpAny_pure ⟨_, rfl, wpAny_pure (hQ h7 tk (tk + 1) (Nat.le_refl _) he7 ?_ (k7 _ _ hez t4) ?_)⟩))
  · obtain ⟨o, ho, r⟩ := st1
    exact ⟨o, k7 _ _ (Ne.symm hne) (k4 _ _ (Ne.symm hne) ho), r⟩
  · exact fun b o hbe hbi q => k7 _ _ hbe (k4 _ _ hbe (b1.extBut b o hbi q))
end
end Wr50
end
section
set_option maxRecDepth 100000
set_option maxHeartbeats 4000000
namespace Wr50
open PySem PySem.W PySem.Calls PyProof.Rows
noncomputable def forTgt : Stmt → Expr
  | .For t _ _ _ _ => t
  | _ => .Name "" ⟨0, 0, 0, 0⟩
@[reducible] noncomputable def fb19 : { l : List Stmt // l = forBody (b19.1.getD 0 (.Pass ⟨0, 0, 0, 0⟩)) } := by
  apply cap
  conv => rhs; whnf
@[reducible] noncomputable def ft19 : { l : Expr // l = forTgt (b19.1.getD 0 (.Pass ⟨0, 0, 0, 0⟩)) } := by
  apply cap
  conv => rhs; whnf
noncomputable abbrev env19 (L : Addr) : Env := envOf (Str.ofString "indexOf") s19.val L 171 (Value.ref 170)
noncomputable abbrev ij : List PySem.Str := [Str.ofString "i", Str.ofString "j"]
theorem st1_inj {c d : Nat} (h : st1 c = st1 d) : c = d := st1_eq (by rw [h]; exact beq_self_eq_true _)
theorem idx_turn : ∀ (w : World) (c x i : Nat) (_ : i ≤ 4) (J : Unit → Prop) (_ : x ≠ c → J ()) (dp un : Nat) (gd : Option (List Code)) (frs : List Env) (base g : Heap) (mean : ExcName → Option Value) (mg mb : PySem.Str → Option Value)
   (_ : Below (ar dp un gd frs) base frs g) (_ : (KF w.params).In g) (_ : Top qv lo mean mg mb g) (_ : dp + 1 < recursionLimit) (_ : un + 8 < cLine)
   (L T : Addr) (its : List (Addr × Obj)) (s s₀ : Shared) (hs₀ : s = { s₀ with heap := s.heap, toks := s.toks }) (va : Value) (t u tb : Tok) (_ : 0 < u) (_ : 0 < tb) (_ : x ≠ c → u ≠ tb) (U m : PySem.Str → Option Value) (Q : Flow → Shared → Prop) (E : Value → Shared → Prop)
   (_ : ∀ t h' tk' m', x = c → Fr g L h' m' → Q (.ret (.int (i : Nat) t)) { s₀ with heap := h', toks := tk' })
   (_ : ∀ z, ij.contains z = false → U z = m z)
   (_ : Fr g L s.heap (kstB U [(Str.ofString "a", va), (Str.ofString "b", .str (st1 c) tb)])) (_ : News g L s.heap its) (_ : IsTup s.heap T #[.int (i : Nat) t, .str (st1 x) u]) (_ : ∀ p ∈ [(Str.ofString "a", va), (Str.ofString "b", .str (st1 c) tb)], m p.1 = some p.2),
   wpAny (model PySem.Challenge.rw_wr0050_01.prog w) ((ar dp un gd frs).deeper (env19 L)) (assign ft19.1 (env19 L) (.ref T))
     (fun _ s₂ => wpAny (model PySem.Challenge.rw_wr0050_01.prog w) ((ar dp un gd frs).deeper (env19 L)) (execs fb19.1 (env19 L)) (ForPost g L s₀ its (fun _ : Unit => []) (fun _ => []) ij m J Q) E s₂) E s := by
  k_fill
  intro w c x i hi J hJ dp un gd frs base g mean mg mb B X T hd hu L T its s s₀ hs₀ va t u tb hu0 htb0 hne U m Q E hq hs F N hT hm
  obtain ⟨hp, gs, dr, tk, os⟩ := s
  obtain ⟨hp₀, gs₀, dr₀, tk₀, os₀⟩ := s₀
  injection hs₀ with _ e1 e2 _ e3
  subst e1 e2 e3
  dsimp only at F N hT hq ⊢
  have U2 : ∀ z, ij.contains z = false → kstB U [(Str.ofString "a", va), (Str.ofString "b", .str (st1 c) tb)] z = m z := fun z hz => kstB_eq hm fun _ => hs z hz
  k_with "compareOp Is str str" => refine hold ?_
  k_steps
  unfold Hold
  k_with_none
  rename Fr _ _ _ _ => F1
  rename News _ _ _ _ => N1
  refine is_str hu0 htb0 (fun h => hne fun e => h (congrArg st1 e)) (booked w.params (X.keeps F1.keep)) fun b hb => ?_
  cases b with
  | true =>
    have hxc := st1_inj (hb rfl)
    k_steps
    exact hq _ _ _ _ hxc (by assumption)
  | false =>
    k_steps
    · rename (st1 x == st1 c) = true => hx
      exact hq _ _ _ _ (st1_eq hx) (by assumption)
    · rename (st1 x == st1 c) = false => hx
      rename Fr _ _ _ _ => F2
      rename News _ _ _ _ => N2
      show ForEnd g L { heap := hp₀, gens := gs, drawn := dr, toks := tk₀, os := os } its _ _ ij m J _
      refine for_end (its := its) (Led := fun _ : Unit => []) (ps := fun _ : Unit => []) () F2 N2 (fun p hp => by simpa using hp) (fun p hp => nomatch hp) (fun z _ hz => ?_) (hJ fun e => by rw [e] at hx; simp at hx)
      have h1 : z ≠ Str.ofString "j" := fun e => by rw [e] at hz; exact absurd hz (by decide)
      have h2 : z ≠ Str.ofString "i" := fun e => by rw [e] at hz; exact absurd hz (by decide)
      simp only [h1, h2, if_false]
      exact U2 z hz
end Wr50
end
section
set_option maxRecDepth 100000
set_option maxHeartbeats 4000000
namespace Wr50
open PySem PySem.W PySem.Calls PyProof.Rows
section
variable {prog : Program} {w : World} {A : Around}
theorem KTb.enumStr {tb : Nat} {elts : List Expr} {k : Nat} {pos : Pos} (hh : A.handled = none) (e it : Addr) (hne : e ≠ it) (x : PySem.Str) (t : Tok) :
    KTb tb prog w A (.Tuple elts k pos) e [e, it] [e, it] x.cps.size
      (fun i v h => ∃ T vals, v = .ref T ∧ (∃ t c u, x.cps[i]? = some c ∧ tb ≤ u ∧ vals = #[.int i t, .str ⟨#[c]⟩ u]) ∧ h.IsTuple T vals)
      (fun i v h => ∃ T vals, v = .ref T ∧ (∃ t c u, x.cps[i]? = some c ∧ tb ≤ u ∧ vals = #[.int i t, .str ⟨#[c]⟩ u]) ∧ h.IsTuple T vals ∧ ((∃ x, IsEnumOut h e it ((i : Int) + 1) x T) ∧ h.IsStrIter it "str_ascii_iterator" x t (i + 1) ∧ T ≠ e ∧ T ≠ it))
      (fun i h => (∃ old, IsEnum h e it i old) ∧ h.IsStrIter it "str_ascii_iterator" x t i) :=
  have W := (WalksT.enumerateD (prog := prog) (w := w) (Draws.strAscii (A := A.in1) hh it x t) e hne (by simpa using hne) (by simp)).toU
  { sub := W.sub
    frame := W.frame
    item := fun i s Q E hi ht st hQ => by
      obtain ⟨⟨old, he⟩, hs⟩ := st
      obtain ⟨c, hc⟩ : ∃ c, x.cps[i]? = some c := ⟨x.cps[i], by simp [hi]⟩
      refine enum_sign he hs hc hne fun h' u tk hu ho hs' hT hk => ?_
      have helt : e < s.heap.objs.size := Heap.lt_size he
      have hilt : it < s.heap.objs.size := by obtain ⟨_, y, _⟩ := hs; exact Heap.lt_size y
      exact hQ _ h' (tk + 1) ⟨_, _, rfl, ⟨_, _, _, hc, Nat.le_trans ht hu, rfl⟩, ⟨_, hT, rfl, _, rfl⟩, ⟨_, ho⟩, hs', Nat.ne_of_gt helt, Nat.ne_of_gt hilt⟩
        fun b o hb y => hk b o (fun q => hb (by simp [q])) (fun q => hb (by simp [q])) y
    go := fun i v s Q E hm hQ => by
      obtain ⟨T, vals, rfl, hP, hT, hm⟩ := hm
      exact W.go elts k pos i T s Q E hm fun h' st hk => hQ h' ⟨T, vals, rfl, hP, hT.at fun o q => hk T o (W.apart i T _ hm) q⟩ st hk
    done := W.done }
end
theorem fist_sz : fistS.cps.size = 4 := by decide
theorem fist_at (i c : Nat) (h : fistS.cps[i]? = some c) : ltrs[i]? = some c ∧ i < 4 := by
  have hi : i < 4 := by
    rcases Nat.lt_or_ge i 4 with h2 | h2
    · exact h2
    · rw [Array.getElem?_eq_none (by rw [fist_sz]; exact h2)] at h; cases h
  refine ⟨?_, hi⟩
  rw [← h]
  match i, hi with
  | 0, _ => rfl
  | 1, _ => rfl
  | 2, _ => rfl
  | 3, _ => rfl
theorem idxOf_at {l : List Nat} {i x c : Nat} (hx : l[i]? = some x) (hi : i ≤ l.idxOf c) : (x = c → i = l.idxOf c) ∧ (x ≠ c → i + 1 ≤ l.idxOf c) := by
  have hlt : i < l.length := by
    rcases Nat.lt_or_ge i l.length with h | h
    · exact h
    · rw [List.getElem?_eq_none h] at hx; cases hx
  have hv : l[i] = x := by simpa [hlt] using hx
  refine ⟨fun e => ?_, fun e => ?_⟩
  · rcases Nat.lt_or_ge i (l.idxOf c) with h | h
    · have := List.not_of_lt_findIdx (xs := l) (p := (· == c)) h
      rw [hv, e] at this
      simp at this
    · omega
  · rcases Nat.lt_or_ge i (l.idxOf c) with h | h
    · exact h
    · have h2 : i = l.idxOf c := by omega
      subst h2
      exact absurd ((List.getElem_idxOf hlt).symm.trans hv).symm e
theorem ps_idxF (w : World) (c : Nat) (t0 tx : Tok) (hc : c ∈ ltrs) : PS w 171 [.str fistS t0, .str (st1 c) tx] 1 8 (fun s => 0 < tx ∧ tx < s.toks) (fun v _ _ => ∃ t, v = .int (ltrs.idxOf c : Nat) t) := by
  unfold PS; k_fill
  intro dp un gd frs base mean mg mb s Q E B X T hd hu hpre hret
  refine wpAny_call ?_
  refine' enter_def (binds := [("a", .str fistS t0), ("b", .str (st1 c) tx)]) X T ?k6 ?k7 ?k8 ?k9 ?kB ?_ ?c2 ?c3 ?c4 ?c5
  case k6 => k_is
  case k7 => k_is
  case k8 => ktr_room
  case k9 => exact BindsTo.of_eq rfl
  case c5 => decide
  case kB => exact locs rfl
  case c2 => exact rfl
  case c3 => exact rfl
  case c4 => exact rfl
  intro L' h' F' N'
  have htk : tx + 1 ≤ s.toks + [((Str.ofString "a" : PySem.Str), Value.str fistS t0), ("b", .str (st1 c) tx)].length := by
    exact Nat.le_trans (Nat.succ_le_of_lt hpre.2) (Nat.le_add_right _ _)
  try k_fold
  generalize s.toks + List.length _ = tk0 at htk ⊢
  k_steps
  refine wpAny_For ?_
  k_with "call type:enumerate" => refine hold ?_
  k_steps
  unfold Hold
  rename Fr _ _ _ _ => F0
  refine call_enumerate_str fun h1 hE1 hI1 hz1 hk1 => ?_
  refine wpAny_pyIter_enum hE1 ?_
  dsimp only at F0 hE1 hI1 hz1 hk1 ⊢
  have F1 := F0.keeps hk1
  have hlt := F0.ns.lt
  refine for_T (σ := Unit) (ws := [(h'.objs.size + 1, "enumerate"), (h'.objs.size, "str_ascii_iterator")]) (tx + 1) [] (fun _ => []) (fun _ => []) ij (fun i _ => i ≤ ltrs.idxOf c) ()
    (KTb.enumStr (by rfl) (h'.objs.size + 1) h'.objs.size (Nat.succ_ne_self _) fistS t0) htk ⟨⟨.none, hE1⟩, (show strIterType fistS = "str_ascii_iterator" by decide +kernel) ▸ hI1⟩ F1 (fun p hp => nomatch hp) (fun p hp => nomatch hp) (Nat.zero_le _)
    (fun _ p hp => nomatch hp) (fun a ha => nomatch ha) (fun b hb => by simpa using hb) ?_ (fun b hb => .inl (by simpa using hb)) ?_ ?_ ?_
  · intro b hb
    have hb' : b = h'.objs.size + 1 ∨ b = h'.objs.size := by simpa using hb
    rcases hb' with rfl | rfl
    · exact ⟨ktu_new F0 (Nat.le_add_right _ _), Nat.ne_of_gt (Nat.lt_succ_of_lt hlt)⟩
    · exact ⟨ktu_new F0 (Nat.le_refl _), Nat.ne_of_gt hlt⟩
  · rintro i h ⟨⟨old, he⟩, ⟨oi, hoi, hic, _⟩⟩
    exact ⟨[(h'.objs.size + 1, _), (h'.objs.size, oi)], ⟨⟨rfl, rfl⟩, ⟨rfl, hic⟩, trivial⟩, fun p hp => by
      rcases List.mem_cons.mp hp with rfl | hp
      · exact he
      · rw [List.mem_singleton.mp hp]; exact hoi⟩
  · rintro i v _ u h tk its hi hP ⟨T1, vals, rfl, ⟨t1, x, u1, hx, hu1, rfl⟩, hT1⟩ htk2 hits F2 N2
    obtain ⟨hx2, hi4⟩ := fist_at i x hx
    have hxi := idxOf_at hx2 hP
    have F3 := kst_self2 (ps := [(Str.ofString "a", .str fistS t0), (Str.ofString "b", .str (st1 c) tx)]) (by kst_all) F2
    refine idx_turn w c x i (Nat.le_of_lt hi4) _ (fun e => hxi.2 e) dp un gd frs base s.heap mean mg mb B X T hd hu L' T1 _ _ _ rfl _ t1 u1 tx (Nat.lt_of_lt_of_le (Nat.succ_pos _) hu1) hpre.1 (fun _ => Nat.ne_of_gt hu1) _ _ _ _ ?_ ?_ F3 (List.append_nil its ▸ N2) hT1 ?_
    · intro t h' tk' m' e F
      exact hret _ _ _ F.keep ⟨t, by rw [hxi.1 e]⟩
    · intro z hz
      show (if _ then _ else _) = _
      rw [hz]; rfl
    · kst_all
  · intro _ u h tk hP
    have := List.idxOf_lt_length_of_mem hc
    exact absurd hP (by rw [fist_sz]; exact Nat.not_le.mpr this)
/-- one-letter strs, each letter with its token -/
noncomputable def tkv (kt : Nat → Tok) (l : List Nat) : List Value := l.map fun c => .str (st1 c) (kt c)
/-- the letters' tokens: given, all different, below tb -/
structure TokOk (kt : Nat → Tok) (tb : Nat) : Prop where
  pos : ∀ c ∈ ltrs, 0 < kt c
  lt : ∀ c ∈ ltrs, kt c < tb
  inj : ∀ c ∈ ltrs, ∀ d ∈ ltrs, c ≠ d → kt c ≠ kt d
theorem tkv_len (kt : Nat → Tok) (l : List Nat) : (tkv kt l).length = l.length := by simp [tkv]
theorem ps_idxL (w : World) (la : Addr) (l : List Nat) (c : Nat) (kt : Nat → Tok) (tb : Nat) (hk : TokOk kt tb) (hsub : ∀ x ∈ l, x ∈ ltrs) (hl : l.length ≤ 4) (hc : c ∈ l) : PS w 171 [.ref la, .str (st1 c) (kt c)] 1 8 (fun s => s.heap.IsList la (tkv kt l).toArray) (fun v _ _ => ∃ t, v = .int (l.idxOf c : Nat) t) := by
  unfold PS; k_fill
  intro dp un gd frs base mean mg mb s Q E B X T hd hu hpre hret
  refine wpAny_call ?_
  refine' enter_def (binds := [("a", .ref la), ("b", .str (st1 c) (kt c))]) X T ?k6 ?k7 ?k8 ?k9 ?kB ?_ ?c2 ?c3 ?c4 ?c5
  case k6 => k_is
  case k7 => k_is
  case k8 => ktr_room
  case k9 => exact BindsTo.of_eq rfl
  case c5 => decide
  case kB => exact locs rfl
  case c2 => exact rfl
  case c3 => exact rfl
  case c4 => exact rfl
  intro L' h' F' N'
  try k_fold
  k_steps
  refine wpAny_For ?_
  k_with "call type:enumerate" => refine hold ?_
  k_steps
  unfold Hold
  rename Fr _ _ _ _ => F0
  refine call_enumerate_list (hpre.at fun o e => F0.keep _ o e) fun h1 hE1 hI1 hz1 hk1 => ?_
  refine wpAny_pyIter_enum hE1 ?_
  dsimp only at F0 hE1 hI1 hz1 hk1 hpre ⊢
  have F1 := F0.keeps hk1
  have hlt := F0.ns.lt
  obtain ⟨lo, hlo⟩ : ∃ o, s.heap.get? la = some o := by obtain ⟨o, ho, _⟩ := hpre; exact ⟨o, ho⟩
  have hla : la < h'.objs.size := Heap.lt_size (F0.keep _ _ hlo)
  have hpre1 : h1.IsList la (tkv kt l).toArray := hpre.at fun o e => F1.keep _ o e
  refine for_T (σ := Unit) (ws := [(h'.objs.size + 1, "enumerate"), (h'.objs.size, "list_iterator")]) 0 [] (fun _ => []) (fun _ => []) ij (fun i _ => i ≤ l.idxOf c) ()
    (KTb.of (KTurns.ofWalksU (WalksT.enumerate (by rfl) (h'.objs.size + 1) h'.objs.size la (Nat.succ_ne_self _) (ktu_ne 1 hla) (Nat.ne_of_lt hla) (tkv kt l).toArray).toU)) (Nat.zero_le _) ⟨⟨.none, hE1⟩, hI1, hpre1⟩ F1 (fun p hp => nomatch hp) (fun p hp => nomatch hp) (Nat.zero_le _)
    (fun _ p hp => nomatch hp) (fun a ha => nomatch ha) (fun b hb => by simpa using hb) ?_ ?_ ?_ ?_ ?_
  · intro b hb
    have hb' : b = h'.objs.size + 1 ∨ b = h'.objs.size := by simpa using hb
    rcases hb' with rfl | rfl
    · exact ⟨ktu_new F0 (Nat.le_add_right _ _), Nat.ne_of_gt (Nat.lt_succ_of_lt hlt)⟩
    · exact ⟨ktu_new F0 (Nat.le_refl _), Nat.ne_of_gt hlt⟩
  · intro b hb
    have hb' : b = h'.objs.size + 1 ∨ b = h'.objs.size ∨ b = la := by simpa using hb
    rcases hb' with rfl | rfl | rfl
    · exact .inl (by simp)
    · exact .inl (by simp)
    · exact .inr (.inl ⟨lo, hlo⟩)
  · rintro i h ⟨⟨old, he⟩, ⟨oi, hoi, hic, _⟩, _⟩
    exact ⟨[(h'.objs.size + 1, _), (h'.objs.size, oi)], ⟨⟨rfl, rfl⟩, ⟨rfl, hic⟩, trivial⟩, fun p hp => by
      rcases List.mem_cons.mp hp with rfl | hp
      · exact he
      · rw [List.mem_singleton.mp hp]; exact hoi⟩
  · rintro i v _ u h tk9 its hi hP ⟨T1, vals, rfl, ⟨t1, x9, hx, rfl⟩, hT1⟩ htk2 hits F2 N2
    have hx1 : (tkv kt l)[i]? = some x9 := by simpa using hx
    rw [tkv, List.getElem?_map] at hx1
    obtain ⟨x, hx2, rfl⟩ := Option.map_eq_some_iff.mp hx1
    have hxi := idxOf_at hx2 hP
    have hxm := hsub x (List.mem_of_getElem? hx2)
    have hcm := hsub c hc
    have hi4 : i ≤ 4 := by
      rcases Nat.lt_or_ge i l.length with h | h
      · omega
      · rw [List.getElem?_eq_none h] at hx2; cases hx2
    have F3 := kst_self2 (ps := [(Str.ofString "a", .ref la), (Str.ofString "b", .str (st1 c) (kt c))]) (by kst_all) F2
    refine idx_turn w c x i hi4 _ (fun e => hxi.2 e) dp un gd frs base s.heap mean mg mb B X T hd hu L' T1 _ _ _ rfl _ t1 (kt x) (kt c) (hk.pos x hxm) (hk.pos c hcm) (hk.inj x hxm c hcm) _ _ _ _ ?_ ?_ F3 (List.append_nil its ▸ N2) hT1 ?_
    · intro t h' tk' m' e F
      exact hret _ _ _ F.keep ⟨t, by rw [hxi.1 e]⟩
    · intro z hz
      show (if _ then _ else _) = _
      rw [hz]; rfl
    · kst_all
  · intro _ u h tk9 hP
    have := List.idxOf_lt_length_of_mem hc
    refine absurd hP (Nat.not_le.mpr ?_)
    simpa [tkv_len] using this
end Wr50
end
section
set_option maxRecDepth 100000
set_option maxHeartbeats 4000000
namespace Wr50
open PySem PySem.W PySem.Calls PyProof.Rows
theorem pc_getL (w : World) (la : Addr) (l : List PySem.Str) (i : Nat) (x : PySem.Str) (t0 : Tok) (hi : l[i]? = some x) (hl : l.length ≤ 100) : PC w 164 [.ref la, .int (i : Nat) t0] 1 8 (fun h => IsStrs h la l) (fun v _ _ => ∃ t, v = .str x t) := by
  unfold PC; k_fill
  intro dp un gd frs base mean mg mb s Q E B X T hd hu hpre hret
  refine wpAny_call ?_
  refine' enter_def (binds := [("a", .ref la), ("b", .int (i : Nat) t0)]) X T ?k6 ?k7 ?k8 ?k9 ?kB ?_ ?c2 ?c3 ?c4 ?c5
  case k6 => k_is
  case k7 => k_is
  case k8 => ktr_room
  case k9 => exact BindsTo.of_eq rfl
  case c5 => decide
  case kB => exact locs rfl
  case c2 => exact rfl
  case c3 => exact rfl
  case c4 => exact rfl
  obtain ⟨vs, hL, hS⟩ := hpre
  have hlt : i < l.length := by
    rcases Nat.lt_or_ge i l.length with h | h
    · exact h
    · rw [List.getElem?_eq_none h] at hi; cases hi
  intro L' h' F' N'
  try k_fold
  k_steps
  rename_i t9
  exact hret _ _ _ (Fr.keep (by assumption)) ⟨t9, by rw [Int.toNat_natCast, List.getD_eq_getElem?_getD, hi]; rfl⟩
theorem fist_item : ∀ i : Fin 4, Txt.item fistS (i.val : Int) = st1 (ltrs.getD i.val 0) := by decide +kernel
theorem pc_getF (w : World) (i : Nat) (tf t0 : Tok) (hi : i < 4) : PC w 164 [.str fistS tf, .int (i : Nat) t0] 1 8 (fun h => True) (fun v _ _ => ∃ t, v = .str (st1 (ltrs.getD i 0)) t) := by
  unfold PC; k_fill
  intro dp un gd frs base mean mg mb s Q E B X T hd hu hpre hret
  refine wpAny_call ?_
  refine' enter_def (binds := [("a", .str fistS tf), ("b", .int (i : Nat) t0)]) X T ?k6 ?k7 ?k8 ?k9 ?kB ?_ ?c2 ?c3 ?c4 ?c5
  case k6 => k_is
  case k7 => k_is
  case k8 => ktr_room
  case k9 => exact BindsTo.of_eq rfl
  case c5 => decide
  case kB => exact locs rfl
  case c2 => exact rfl
  case c3 => exact rfl
  case c4 => exact rfl
  intro L' h' F' N'
  try k_fold
  have hfl : fistS.length = 4 := rfl
  k_steps
  exact hret _ _ _ (Fr.keep (by assumption)) ⟨_, by rw [fist_item ⟨i, hi⟩]⟩
theorem pc_in (w : World) (la : Addr) (l : List PySem.Str) (x : PySem.Str) (t0 : Tok) : PC w 150 [.ref la, .str x t0] 1 8 (fun h => IsStrs h la l) (fun v _ _ => v = .bool (l.any (· == x))) := by
  unfold PC; k_fill
  intro dp un gd frs base mean mg mb s Q E B X T hd hu hpre hret
  refine wpAny_call ?_
  refine' enter_def (binds := [("a", .ref la), ("b", .str x t0)]) X T ?k6 ?k7 ?k8 ?k9 ?kB ?_ ?c2 ?c3 ?c4 ?c5
  case k6 => k_is
  case k7 => k_is
  case k8 => ktr_room
  case k9 => exact BindsTo.of_eq rfl
  case c5 => decide
  case kB => exact locs rfl
  case c2 => exact rfl
  case c3 => exact rfl
  case c4 => exact rfl
  obtain ⟨vs, hL, hS⟩ := hpre
  intro L' h' F' N'
  try k_fold
  k_steps
  exact hret _ _ _ (Fr.keep (by assumption)) rfl
end Wr50
end
section
set_option maxRecDepth 100000
set_option maxHeartbeats 4000000
namespace Wr50
open PySem PySem.W PySem.Calls PyProof.Rows
noncomputable abbrev Oks (ns : List PySem.Str) : Prop := ∀ x ∈ ns, PyData.strOk x = true
theorem sq_can : ∀ ns : List PySem.Str, Oks ns → PyData.canLayAll0 (ns.map PyData.str) = true
  | [], _ => rfl
  | x :: r, h => by simp [PyData.canLayAll0, PyData.canLay0, sq_can r fun y hy => h y (.tail _ hy), h x (.head _)]
theorem sq_depth : ∀ ns : List PySem.Str, PyData.depthAll (ns.map PyData.str) = 0
  | [] => rfl
  | _ :: r => by simp [PyData.depthAll, PyData.depth, sq_depth r]
theorem sq_shaped (ns : List PySem.Str) (h : Oks ns) : SeqAt.shaped (.list (ns.map PyData.str)) = true := by
  simp [SeqAt.shaped, PyData.canLay0, PyData.depth, sq_can ns h, sq_depth]
theorem sq_sameAll : ∀ ns ms : List PySem.Str, PySem.Spec.sameAll (ns.map PyData.str) (ms.map PyData.str) = decide (ns = ms)
  | [], [] => by simp [PySem.Spec.sameAll]
  | [], _ :: _ => by simp [PySem.Spec.sameAll]
  | _ :: _, [] => by simp [PySem.Spec.sameAll]
  | a :: r, b :: t => by
    simp only [List.map_cons, PySem.Spec.sameAll, PySem.Spec.same, sq_sameAll r t]
    by_cases h : a = b <;> by_cases h' : r = t <;> simp [h, h']
theorem sq_same (ns ms : List PySem.Str) : PySem.Spec.same (.list (ns.map PyData.str)) (.list (ms.map PyData.str)) = decide (ns = ms) := by
  simp only [PySem.Spec.same]; exact sq_sameAll ns ms
section
variable {prog : Program} {w : World} {A : Around} {E : Value → Shared → Prop} {s : Shared} {a b : Addr} {xs ys : List Value} {ns ms : List PySem.Str} {Q : Value → Shared → Prop}
theorem strs_eq (ha : s.heap.IsList a xs.toArray) (hb : s.heap.IsList b ys.toArray) (hi : StrsAre xs ns) (hj : StrsAre ys ms) (ho : Oks ns) (hp : Oks ms) (hu : A.units + 64 < cLine) (h : Q (.bool (decide (ns = ms))) s) :
    wpAny (model prog w) A (compareOp .Eq (.ref a) (.ref b)) Q E s :=
  eq_dataH_same (reads_newData ha hi.carried) (reads_newData hb hj.carried) (sq_shaped _ ho) (sq_shaped _ hp) hu (SeqAt.noMix_of_shape (.list .str) rfl _ _ (list_map_has fun _ => rfl) (list_map_has fun _ => rfl)) (by rw [sq_same]; exact h)
theorem strs_ne (ha : s.heap.IsList a xs.toArray) (hb : s.heap.IsList b ys.toArray) (hi : StrsAre xs ns) (hj : StrsAre ys ms) (ho : Oks ns) (hp : Oks ms) (hu : A.units + 64 < cLine) (h : Q (.bool (!decide (ns = ms))) s) :
    wpAny (model prog w) A (compareOp .NotEq (.ref a) (.ref b)) Q E s :=
  ne_dataH_same (reads_newData ha hi.carried) (reads_newData hb hj.carried) (sq_shaped _ ho) (sq_shaped _ hp) hu (SeqAt.noMix_of_shape (.list .str) rfl _ _ (list_map_has fun _ => rfl) (list_map_has fun _ => rfl)) (by rw [sq_same]; exact h)
end
end Wr50
end
section
set_option maxRecDepth 100000
set_option maxHeartbeats 4000000
namespace Wr50
open PySem PySem.W PySem.Calls PyProof.Rows
noncomputable abbrev st0 : Stmt := .Pass ⟨0, 0, 0, 0⟩
@[reducible] noncomputable def wb24 : { l : List Stmt // l = whileBody (b24.1.getD 2 st0) } := by
  apply cap
  conv => rhs; whnf
@[reducible] noncomputable def wb24b : { l : List Stmt // l = whileBody (wb24.1.getD 2 st0) } := by
  apply cap
  conv => rhs; whnf
@[reducible] noncomputable def fb24 : { l : List Stmt // l = forBody (wb24b.1.getD 2 st0) } := by
  apply cap
  conv => rhs; whnf
@[reducible] noncomputable def ft24 : { l : Expr // l = forTgt (wb24b.1.getD 2 st0) } := by
  apply cap
  conv => rhs; whnf
@[reducible] noncomputable def fb24c : { l : List Stmt // l = forBody (wb24.1.getD 4 st0) } := by
  apply cap
  conv => rhs; whnf
@[reducible] noncomputable def ft24c : { l : Expr // l = forTgt (wb24.1.getD 4 st0) } := by
  apply cap
  conv => rhs; whnf
noncomputable abbrev env24 (L : Addr) : Env := envOf (Str.ofString "_law_traded") s24.val L 199 (Value.ref 198)
theorem dots_is (a b : Nat) : Str.ofString "..." ++ st1 a ++ Str.ofString "..." ++ st1 b ++ Str.ofString "..." = dots a b := rfl
theorem perm_at {o : List Nat} (h : o ∈ perms4) : ∃ c0 c1 c2 c3, o = [c0, c1, c2, c3] := by
  simp only [perms4, List.mem_cons, List.not_mem_nil, or_false] at h
  rcases h with h | h | h | h | h | h | h | h | h | h | h | h | h | h | h | h | h | h | h | h | h | h | h | h <;> exact ⟨_, _, _, _, h⟩
/-- which of two is rather had -/
noncomputable def pick (o : List Nat) (x b : Nat) : Nat := if bef o x b = true then x else b
theorem one_turn : ∀ (w : World) (o : List Nat) (_ : o ∈ perms4) (x b : Nat) (_ : x ∈ ltrs) (_ : b ∈ ltrs) (kt : Nat → Tok) (to : Tok) (dp un : Nat) (gd : Option (List Code)) (frs : List Env) (base g : Heap) (mean : ExcName → Option Value) (mg mb : PySem.Str → Option Value)
   (_ : Below (ar dp un gd frs) base frs g) (_ : (KF w.params).In g) (_ : Top qv lo mean mg mb g) (_ : dp + 3 < recursionLimit) (_ : un + 20 < cLine)
   (L : Addr) (nw : List (Addr × Obj)) (s : Shared) (E : Value → Shared → Prop) (U : PySem.Str → Option Value)
   (_ : Fr g L s.heap (kstB U [(Str.ofString "best", .str (st1 b) (kt b)), (Str.ofString "order", .str (stL o) to)])) (_ : News g L s.heap nw),
   wpAny (model PySem.Challenge.rw_wr0050_01.prog w) ((ar dp un gd frs).deeper (env24 L)) (assign ft24.1 (env24 L) (.str (st1 x) (kt x)))
     (fun _ s₂ => wpAny (model PySem.Challenge.rw_wr0050_01.prog w) ((ar dp un gd frs).deeper (env24 L)) (execs fb24.1 (env24 L))
       (TurnW s g L (kstB U [(Str.ofString "best", .str (st1 b) (kt b)), (Str.ofString "order", .str (stL o) to)]) [Str.ofString "one", Str.ofString "best"]
         (fun m' nw' => (∀ p ∈ nw, p ∈ nw') ∧ m' (Str.ofString "best") = some (.str (st1 (pick o x b)) (kt (pick o x b))))) E s₂) E s := by
  k_fill
  intro w o ho x b hx hb kt to dp un gd frs base g mean mg mb B X T hd hu L nw s E U F N
  refine hideQ2 ?_
  intro Q0 hQ0
  obtain ⟨c0, c1, c2, c3, rfl⟩ := perm_at ho
  have hC := pc_ell w x b c0 c1 c2 c3
  k_with "call ref" => refine hold ?_
  k_steps
  unfold Hold
  k_with_none
  rename Fr _ _ _ _ => F1
  rename News _ _ _ _ => N1
  clear hC
  refine use (pc_ell w x b c0 c1 c2 c3 _ to hx hb ho) B F1 N1 X T rfl rfl (room1 hd (by decide)) (room3 hu (by decide)) trivial ?_
  rintro _ h1 tk1 F2 N2 _ rfl
  clear F1 N1
  cases hbf : bef [c0, c1, c2, c3] x b with
  | true =>
    have hp : pick [c0, c1, c2, c3] x b = x := if_pos hbf
    k_steps
    rename Fr _ _ _ _ => F9
    rename News _ _ _ _ => N9
    refine hQ0 _ _ ⟨_, _, _, _, rfl, rfl, F9, N9, ?_, fun p h => h, by rw [hp]; rfl⟩
    intro z h3; simp at h3; simp [h3]
  | false =>
    have hp : pick [c0, c1, c2, c3] x b = b := if_neg (by rw [hbf]; decide)
    k_steps
    rename Fr _ _ _ _ => F9
    rename News _ _ _ _ => N9
    refine hQ0 _ _ ⟨_, _, _, _, rfl, rfl, F9, N9, ?_, fun p h => h, by rw [hp]; rfl⟩
    intro z h3; simp at h3; simp [h3]
end Wr50
end
section
set_option maxRecDepth 100000
set_option maxHeartbeats 4000000
namespace Wr50
open PySem PySem.W PySem.Calls PyProof.Rows
noncomputable def IsTop (o l : List Nat) (b : Nat) : Prop := b ∈ l ∧ ∀ d ∈ l, d ≠ b → bef o b d = true
theorem idx_inj : ∀ o ∈ perms4, ∀ a ∈ ltrs, ∀ b ∈ ltrs, o.idxOf a = o.idxOf b → a = b := by decide +kernel
theorem top_pick {o l : List Nat} {b x : Nat} (ho : o ∈ perms4) (hl : ∀ d ∈ l, d ∈ ltrs) (hx : x ∈ ltrs) (h : IsTop o l b) : IsTop o (l ++ [x]) (pick o x b) := by
  unfold pick
  by_cases hb : bef o x b = true
  · rw [if_pos hb]
    refine ⟨by simp, fun d hd hn => ?_⟩
    rcases List.mem_append.mp hd with hd | hd
    · by_cases e : d = b
      · rw [e]; exact hb
      · have := h.2 d hd e
        simp only [bef, decide_eq_true_eq] at this hb ⊢
        omega
    · exact absurd (List.mem_singleton.mp hd) hn
  · rw [if_neg hb]
    refine ⟨by simp [h.1], fun d hd hn => ?_⟩
    rcases List.mem_append.mp hd with hd | hd
    · exact h.2 d hd hn
    · have e := List.mem_singleton.mp hd
      subst e
      have := idx_inj o ho d hx b (hl b h.1)
      simp only [bef, decide_eq_true_eq] at hb ⊢
      omega
@[reducible] noncomputable def fs24 : { l : Stmt // l = wb24b.1.getD 2 st0 } := by
  apply cap
  conv => rhs; whnf
theorem pick_from (vs : List Value) (a : Nat) : slicePick vs.toArray (some (a : Int)) none none = (vs.drop a).toArray := by
  rw [kms_pick_eq]
  congr 1
  have h : kms_lo (some (a : Int)) vs.length = min a vs.length := by
    show (if (a : Int) < 0 then vs.length - (-(a : Int)).toNat else min (a : Int).toNat vs.length) = _
    rw [if_neg (by omega), Int.toNat_natCast]
  show (vs.drop (kms_lo (some (a : Int)) vs.length)).take (kms_hi none vs.length - kms_lo (some (a : Int)) vs.length) = vs.drop a
  rw [h, show kms_hi none vs.length = vs.length from rfl, kmk_drop_min]
  exact List.take_of_length_le (by rw [List.length_drop]; omega)
section
variable {prog : Program} {w : World} {A : Around} {E : Value → Shared → Prop} {s : Shared} {env : Env} {h₀ : Heap} {target : Expr} {body orelse : List Stmt} {Q : Flow → Shared → Prop}
/-- a loop over a list of the ledger -/
theorem for_list {σ : Type} {l : Addr} {lo : Obj} {vs : List Value} {nn : Nat} {m₀ : PySem.Str → Option Value} (tb : Nat) (as : List Addr) (Led : σ → List (Addr × Obj)) (ps : σ → List (PySem.Str × Value)) (stored : List PySem.Str) (P : Nat → σ → Prop) (c₀ : σ)
    (hh : A.handled = none) (htb : tb ≤ s.toks) (F : Fr h₀ env.locals s.heap m₀) (N : News h₀ env.locals s.heap (Led c₀)) (hk : ∀ p ∈ ps c₀, m₀ p.1 = some p.2) (hp : P 0 c₀) (has : ∀ c, ∀ p ∈ Led c, p.1 ∈ as) (hlt : ∀ a ∈ as, ∃ o, (a, o) ∈ Led c₀)
    (hl : ∀ c, (l, lo) ∈ Led c) (hc : lo.cls = .type "list") (hd : lo.data = .seq vs.toArray nn)
    (turn : ∀ (i : Nat) (v : Value) (c : σ) (u : PySem.Str → Option Value) (h : Heap) (tk : Nat) (its : List (Addr × Obj)), vs[i]? = some v → P i c → tb ≤ tk → (∀ p ∈ its, p.1 ∉ as) →
      Fr h₀ env.locals h (kstB (fun z => if stored.contains z then u z else m₀ z) (ps c)) → News h₀ env.locals h (its ++ Led c) →
      wpAny (model prog w) A (assign target env v) (fun _ s₂ => wpAny (model prog w) A (execs body env) (ForPost h₀ env.locals s its Led ps stored m₀ (P (i + 1)) Q) E s₂) E { s with heap := h, toks := tk })
    (done : ∀ (c : σ) (u : PySem.Str → Option Value) (h : Heap) (tk : Nat), P vs.length c → tb ≤ tk → Fr h₀ env.locals h (kstB (fun z => if stored.contains z then u z else m₀ z) (ps c)) → News h₀ env.locals h (Led c) →
      wpAny (model prog w) A (execs orelse env) Q E { s with heap := h, toks := tk })
    (hE : PassesOwn (model prog w) A env E := by passes_own) :
    wpAny (model prog w) A (pyIter (.ref l)) (fun it s₂ => codeAny (model prog w) A (.forLoop target it body orelse env) (fun r s' => match r with | .ok f => Q f s' | .error e => cameBackBy (model prog w) A env E e s') s₂) E s := by
  have hax := N _ (hl c₀)
  have hL : s.heap.IsList l vs.toArray := ⟨lo, hax.1, hc, nn, hd⟩
  have hlz : l < s.heap.objs.size := Heap.lt_size hax.1
  have hne : l ≠ s.heap.objs.size := Nat.ne_of_lt hlz
  have lt : ∀ a ∈ as, a < s.heap.objs.size := fun a ha => let ⟨_, ho⟩ := hlt a ha; Heap.lt_size (N _ ho).1
  refine wpAny_pyIter_list hL ?_
  refine for_T (s := { s with heap := s.heap.push { cls := .type "list_iterator", data := .fields #[.ref l, .int 0 0] } }) (ws := [(s.heap.objs.size, "list_iterator")]) tb as Led ps stored P c₀
    (KTb.of (KTurns.ofWalks (Walks.list hh s.heap.objs.size l hne vs.toArray) fun i v s Q E st q => letGo_listiter st.1 q)) htb ⟨⟨_, Heap.get?_push_size _ rfl, rfl, rfl⟩, hL.at fun o e => Heap.get?_push_of_some _ e⟩ (F.push _) (fun p hp => ⟨Heap.get?_push_of_some _ (N p hp).1, (N p hp).2⟩) hk hp has ?_ (fun b hb => by simpa using hb) ?_ ?_ ?_ ?_ ?_
  · intro a ha hb
    have hb' : a = s.heap.objs.size := by simpa using hb
    exact Nat.ne_of_lt (lt a ha) hb'
  · intro b hb
    have hb' : b = s.heap.objs.size := by simpa using hb
    rw [hb']
    exact ⟨next_is_new F, Nat.ne_of_gt F.ns.lt⟩
  · intro b hb
    have hb' : b = s.heap.objs.size ∨ b = l := by simpa using hb
    rcases hb' with rfl | rfl
    · exact .inl (by simp)
    · exact .inr (.inr ⟨lo, hl⟩)
  · intro i h st
    obtain ⟨it, hit, hic, _⟩ := st.1
    exact ⟨[(s.heap.objs.size, it)], ⟨⟨rfl, hic⟩, trivial⟩, fun p hp => by rw [List.mem_singleton.mp hp]; exact hit⟩
  · intro i v c u h tk its _ hP hv ht hits F' N'
    refine turn i v c u h tk its (by simpa using hv) hP ht (fun p hp ha => ?_) F' N'
    have hmap := hits.map
    have h1 : p.1 ∈ its.map (·.1) := List.mem_map.mpr ⟨p, hp, rfl⟩
    rw [hmap] at h1
    exact Nat.ne_of_lt (lt _ ha) (by simpa using h1)
  · intro c u h tk hP ht F' N'
    exact done c u h tk (by simpa using hP) ht F' N'
end
theorem one_loop : ∀ (w : World) (o : List Nat) (_ : o ∈ perms4) (b0 : Nat) (r : List Nat) (_ : ∀ x ∈ b0 :: r, x ∈ ltrs) (_ : r.length ≤ 4) (kt : Nat → Tok) (to : Tok) (dp un : Nat) (gd : Option (List Code)) (frs : List Env) (base g : Heap) (mean : ExcName → Option Value) (mg mb : PySem.Str → Option Value)
   (_ : Below (ar dp un gd frs) base frs g) (_ : (KF w.params).In g) (_ : Top qv lo mean mg mb g) (_ : dp + 3 < recursionLimit) (_ : un + 20 < cLine)
   (L ll pl gl : Addr) (nl : Nat) (po go : Obj) (s : Shared) (E : Value → Shared → Prop) (U : PySem.Str → Option Value)
   (_ : Fr g L s.heap (kstB U [(Str.ofString "best", .str (st1 b0) (kt b0)), (Str.ofString "order", .str (stL o) to), (Str.ofString "left", .ref ll)])) (_ : News g L s.heap [(pl, po), (gl, go), (ll, W.listOf (tkv kt (b0 :: r)).toArray nl)])
   (_ : PassesOwn (model PySem.Challenge.rw_wr0050_01.prog w) ((ar dp un gd frs).deeper (env24 L)) (env24 L) E),
   wpAny (model PySem.Challenge.rw_wr0050_01.prog w) ((ar dp un gd frs).deeper (env24 L)) (exec fs24.1 (env24 L))
       (TurnW s g L (kstB U [(Str.ofString "best", .str (st1 b0) (kt b0)), (Str.ofString "order", .str (stL o) to), (Str.ofString "left", .ref ll)]) [Str.ofString "one", Str.ofString "best"]
         (fun m' nw' => (∀ p ∈ [(pl, po), (gl, go), (ll, W.listOf (tkv kt (b0 :: r)).toArray nl)], p ∈ nw') ∧ ∃ b, IsTop o (b0 :: r) b ∧ m' (Str.ofString "best") = some (.str (st1 b) (kt b)))) E s := by
  k_fill
  intro w o ho b0 r hr hrl kt to dp un gd frs base g mean mg mb B X T hd hu L ll pl gl nl po go s E U F N hE
  refine hideQ ?_
  intro Q0 hQ0
  have hvl : (tkv kt (b0 :: r)).length ≤ 5 := by rw [tkv_len]; simp; omega
  refine wpAny_For ?_
  k_steps
  rename Fr _ _ _ _ => F1
  rename News _ _ _ _ => N1
  rename Heap => h1
  rw [show (some 1 : Option Int) = some ((1 : Nat) : Int) from rfl, pick_from] at N1
  rw [show (tkv kt (b0 :: r)).drop 1 = tkv kt r from rfl] at N1
  dsimp only at F1 N1 ⊢
  generalize hsl : s.heap.objs.size + 1 = sl at N1 ⊢
  refine for_list (s := ⟨h1, s.gens, s.drawn, s.toks + 1, s.os⟩) (σ := Nat) (vs := tkv kt r) 0 [sl, pl, gl, ll] (fun _ => [(sl, _), (pl, po), (gl, go), (ll, W.listOf (tkv kt (b0 :: r)).toArray nl)]) (fun b => [(Str.ofString "best", .str (st1 b) (kt b))]) [Str.ofString "one"]
    (fun i b => IsTop o ((b0 :: r).take (i + 1)) b) b0 (by rfl) (Nat.zero_le _) F1 N1 (by kst_all) ⟨by simp, fun d hd hn => absurd (by simpa using hd) hn⟩ ?_ ?_ (fun _ => .head _) rfl rfl ?_ ?_ hE
  · exact fun c => all1 (.head _) (all1 (.tail _ (.head _)) (all1 (.tail _ (.tail _ (.head _))) (all1 (.tail _ (.tail _ (.tail _ (.head _)))) all0)))
  · refine all1 ?_ (all1 ?_ (all1 ?_ (all1 ?_ all0)))
    · exact ⟨_, .head _⟩
    · exact ⟨_, .tail _ (.head _)⟩
    · exact ⟨_, .tail _ (.tail _ (.head _))⟩
    · exact ⟨_, .tail _ (.tail _ (.tail _ (.head _)))⟩
  · intro i v b u h tk its hv hP _ hits F2 N2
    rw [tkv, List.getElem?_map] at hv
    obtain ⟨x, hx, rfl⟩ := Option.map_eq_some_iff.mp hv
    have hxm : x ∈ r := List.mem_of_getElem? hx
    have hbm : b ∈ b0 :: r := List.mem_of_mem_take hP.1
    have F3 := kst_self2 (ps := [(Str.ofString "best", .str (st1 b) (kt b)), (Str.ofString "order", .str (stL o) to)]) (by kst_all) F2
    refine wpAny_mono (one_turn w o ho x b (hr x (.tail _ hxm)) (hr b hbm) kt to dp un gd frs base g mean mg mb B X T hd hu L _ _ E _ F3 N2) (fun _ s₂ p => wpAny_mono p (fun f s₃ q => ?_) fun _ _ x => x) fun _ _ x => x
    obtain ⟨h3, k3, m3, nw3, rfl, rfl, F4, N4, hs4, hsub, hb4⟩ := q
    show ForEnd _ _ _ _ _ _ _ _ _ _
    refine for_end (pick o x b) F4 N4 (fun p hp => hsub p hp) (by intro p hp; rw [List.mem_singleton.mp hp]; exact hb4) ?_ ?_
    · intro z h5 h6
      have h7 : [Str.ofString "one", Str.ofString "best"].contains z = false := by
        have h8 : z ≠ Str.ofString "best" := h5 _ (.head _)
        simp at h6 ⊢; exact ⟨h6, h8⟩
      refine (hs4 z h7).trans ((kstB_eq (by kst_all) fun _ => rfl).trans ?_)
      have h8 : z ≠ Str.ofString "best" := h5 _ (.head _)
      show kstB _ _ z = _
      simp only [kstB, h8, if_false, h6, Bool.false_eq_true]
    · have e : (b0 :: r).take (i + 1 + 1) = (b0 :: r).take (i + 1) ++ [x] := by
        rw [List.take_add_one]; simp [hx]
      rw [e]
      exact top_pick ho (fun d hd => hr d (List.mem_of_mem_take hd)) (hr x (.tail _ hxm)) hP
  · intro b u h tk hP _ F2 N2
    refine wpAny_execs_nil (hQ0 _ _ ⟨h, tk, _, _, rfl, rfl, F2, N2, ?_, fun p hp => .tail _ hp, b, ?_, rfl⟩)
    · intro z h3
      simp at h3
      simp [kstB, h3]
    · rw [tkv_len, List.take_of_length_le (by simp)] at hP
      exact hP
end Wr50
end
section
set_option maxRecDepth 100000
set_option maxHeartbeats 4000000
namespace Wr50
open PySem PySem.W PySem.Calls PyProof.Rows
section
variable {prog : Program} {w : World} {A : Around} {E : Value → Shared → Prop} {s : Shared} {value slice : PySem.Expr} {l : Addr} {vs : List Value} {k : Int} {u : Tok} {v : Value} {Q : Value → Shared → Prop}
theorem item_pos (hl : s.heap.IsList l vs.toArray) (h0 : 0 ≤ k) (hhi : k < 1000000) (hx : vs[k.toNat]? = some v) (h : Q v s)
    (hs : subscripted slice false (.ref l) (.int k u) = operate [.ref l, .int k u] (getItem (.ref l) (.int k u)) := by with_unfolding_all rfl) :
    wpAny (model prog w) A (subscriptTail value slice (.ref l) (.int k u)) Q E s :=
  tail_any hl.typeIs slot_list_getitem.lookup (wpAny_getItem_list hl h0 (by omega) (by simpa using hx) h) hs
theorem item_neg (hl : s.heap.IsList l vs.toArray) (h0 : k < 0) (h1 : -(vs.length : Int) ≤ k) (hhi : -1000000 < k) (hx : vs[(k + vs.length).toNat]? = some v) (h : Q v s)
    (hs : subscripted slice false (.ref l) (.int k u) = operate [.ref l, .int k u] (getItem (.ref l) (.int k u)) := by with_unfolding_all rfl) :
    wpAny (model prog w) A (subscriptTail value slice (.ref l) (.int k u)) Q E s :=
  tail_any hl.typeIs slot_list_getitem.lookup (wpAny_getItem_list_neg hl h0 (by simpa using h1) (by omega) (by simpa using hx) h) hs
end
theorem tkv_at {kt : Nat → Tok} {l : List Nat} {i c : Nat} (h : l[i]? = some c) : (tkv kt l)[i]? = some (.str (st1 c) (kt c)) := by
  rw [tkv, List.getElem?_map, h]; rfl
theorem tkv_strs (kt : Nat → Tok) : ∀ l : List Nat, StrsAre (tkv kt l) (l.map st1)
  | [] => .nil
  | c :: l => .cons _ _ (tkv_strs kt l)
theorem any_st1 (l : List Nat) (b : Nat) : (l.map st1).any (· == st1 b) = l.contains b := by
  induction l with
  | nil => rfl
  | cons c l ih =>
    rw [List.map_cons, List.any_cons, ih, List.contains_cons]
    congr 1
    by_cases h : c = b
    · subst h; simp
    · have h1 : (st1 c == st1 b) = false := by
        cases q : (st1 c == st1 b) with
        | false => rfl
        | true => exact absurd (st1_eq q) h
      rw [h1]; symm; simp; exact fun e => h e.symm
theorem kstB_self {mp : PySem.Str → Option Value} {ps : List (PySem.Str × Value)} {z : PySem.Str} (h : ∀ p ∈ ps, mp p.1 = some p.2) : kstB mp ps z = mp z := kstB_eq h fun _ => rfl
theorem path_turn : ∀ (w : World) (os : List (List Nat)) (_ : os.length = 4) (_ : ∀ o ∈ os, o ∈ perms4) (pq : List Nat) (c b0 : Nat) (r : List Nat) (_ : ∀ x ∈ b0 :: r, x ∈ ltrs) (_ : r.length ≤ 4) (_ : ∀ x ∈ pq ++ [c], x ∈ b0 :: r) (_ : pq.length ≤ 4) (kt : Nat → Tok) (tb : Nat) (_ : TokOk kt tb) (te : Tok) (dp un : Nat) (gd : Option (List Code)) (frs : List Env) (base g : Heap) (mean : ExcName → Option Value) (mg mb : PySem.Str → Option Value)
   (_ : Below (ar dp un gd frs) base frs g) (_ : (KF w.params).In g) (_ : Top qv lo mean mg mb g) (_ : dp + 3 < recursionLimit) (_ : un + 20 < cLine)
   (L oa ll pl gl : Addr) (_ : gl ≠ pl ∧ ll ≠ pl) (np nl : Nat) (go : Obj) (_ : IsStrs g oa (os.map stL)) (s : Shared) (_ : tb ≤ s.toks) (E : Value → Shared → Prop) (U : PySem.Str → Option Value)
   (_ : Fr g L s.heap (kstB U [(Str.ofString "best", .str (Str.ofString "") te), (Str.ofString "orders", .ref oa), (Str.ofString "left", .ref ll), (Str.ofString "path", .ref pl)])) (_ : News g L s.heap [(pl, W.listOf (tkv kt (pq ++ [c])).toArray np), (gl, go), (ll, W.listOf (tkv kt (b0 :: r)).toArray nl)])
   (_ : PassesOwn (model PySem.Challenge.rw_wr0050_01.prog w) ((ar dp un gd frs).deeper (env24 L)) (env24 L) E),
   wpAny (model PySem.Challenge.rw_wr0050_01.prog w) ((ar dp un gd frs).deeper (env24 L)) (execs wb24b.1 (env24 L))
       (TurnW s g L (kstB U [(Str.ofString "best", .str (Str.ofString "") te), (Str.ofString "orders", .ref oa), (Str.ofString "left", .ref ll), (Str.ofString "path", .ref pl)]) [Str.ofString "order", Str.ofString "one", Str.ofString "best"]
         (fun m' nw' => ∃ b, IsTop (os.getD (ltrs.idxOf c) []) (b0 :: r) b ∧
           ((b ∈ pq ++ [c] ∧ (∀ p ∈ [(pl, W.listOf (tkv kt (pq ++ [c])).toArray np), (gl, go), (ll, W.listOf (tkv kt (b0 :: r)).toArray nl)], p ∈ nw') ∧ m' (Str.ofString "best") = some (.str (st1 b) (kt b))) ∨
            (b ∉ pq ++ [c] ∧ (∃ np', ∀ p ∈ [(pl, W.listOf (tkv kt ((pq ++ [c]) ++ [b])).toArray np'), (gl, go), (ll, W.listOf (tkv kt (b0 :: r)).toArray nl)], p ∈ nw') ∧ ∃ t, m' (Str.ofString "best") = some (.str (Str.ofString "") t))))) E s := by
  k_fill
  intro w os hol hos pq c b0 r hr hrl hpq hpl kt tb hk te dp un gd frs base g mean mg mb B X T hd hu L oa ll pl gl hap np nl go hoa s ht E U F N hE
  refine hideQ ?_
  intro Q0 hQ0
  have hvl : (tkv kt (b0 :: r)).length ≤ 5 := by rw [tkv_len]; simp; omega
  have hvp : (tkv kt (pq ++ [c])).length = pq.length + 1 := by rw [tkv_len]; simp
  have hcm : c ∈ ltrs := hr c (hpq c (by simp))
  have hci : ltrs.idxOf c < 4 := idxF c hcm
  obtain ⟨o, hoo⟩ : ∃ o, os[ltrs.idxOf c]? = some o := ⟨os[ltrs.idxOf c]'(by omega), by simp [hol, hci]⟩
  have hop : o ∈ perms4 := hos o (List.mem_of_getElem? hoo)
  have hog : os.getD (ltrs.idxOf c) [] = o := by rw [List.getD_eq_getElem?_getD, hoo]; rfl
  rw [hog] at hQ0
  k_with "call ref" => refine hold ?_
  k_with "subscriptTail Name UnaryOp ref int" => refine hold ?_
  k_steps
  unfold Hold
  dsimp only
  refine item_neg (vs := tkv kt (pq ++ [c])) (v := .str (st1 c) (kt c)) (News.isList N (.head _)) (by omega) (by omega) (by omega) (tkv_at (by rw [hvp, show (-1 + ((pq.length + 1 : Nat) : Int)).toNat = pq.length by omega]; simp)) ?_
  k_steps
  unfold Hold
  refine useT (ps_idxF w c _ (kt c) hcm).toT B F N X T rfl rfl (room1 hd (by decide)) (room3 hu (by decide)) ⟨hk.pos c hcm, Nat.lt_of_lt_of_le (hk.lt c hcm) (Nat.le_trans ht (Nat.le_add_right _ 3))⟩ ?_
  rintro _ h1 tk1 F1 N1 _ ⟨t1, rfl⟩ ht1
  clear F N
  k_steps
  unfold Hold
  refine use (pc_getL w oa (os.map stL) (ltrs.idxOf c) (stL o) t1 (by rw [List.getElem?_map, hoo]; rfl) (by simp; omega)) B F1 N1 X T rfl rfl (room1 hd (by decide)) (room3 hu (by decide)) ?_ ?_
  · obtain ⟨vs, hv, hS⟩ := hoa
    exact ⟨vs, hv.at fun o e => F1.keep _ o e, hS⟩
  rintro _ h2 tk2 F2 N2 _ ⟨t2, rfl⟩
  clear F1 N1
  k_with "exec For Name Subscript cons nil" => refine hold ?_
  k_steps
  unfold Hold
  rename Fr _ _ _ _ => F3
  rename News _ _ _ _ => N3
  have F4 := kst_self2 (ps := [(Str.ofString "best", .str (st1 b0) (kt b0)), (Str.ofString "order", .str (stL o) t2), (Str.ofString "left", .ref ll)]) (by kst_all) F3
  refine wpAny_mono (one_loop w o hop b0 r hr hrl kt t2 dp un gd frs base g mean mg mb B X T hd hu L ll pl gl nl _ go _ E _ F4 N3 hE) (fun fl s' q => ?_) fun _ _ x => x
  obtain ⟨h3, k3, m3, nw3, rfl, rfl, F5, N5, hs5, hsub, b, hb, hb5⟩ := q
  have N6 := newsSub N5 hsub
  have F6 := kst_self2 (ps := [(Str.ofString "best", .str (st1 b) (kt b)), (Str.ofString "path", .ref pl)]) (by
    refine List.forall_mem_cons.mpr ⟨hb5, List.forall_mem_cons.mpr ⟨?_, List.forall_mem_nil _⟩⟩
    exact (hs5 (Str.ofString "path") (by decide)).trans (by rfl)) F5
  have same6 : ∀ z, [Str.ofString "order", Str.ofString "one", Str.ofString "best"].contains z = false → kstB m3 [(Str.ofString "best", .str (st1 b) (kt b)), (Str.ofString "path", .ref pl)] z = kstB U [(Str.ofString "best", .str (Str.ofString "") te), (Str.ofString "orders", .ref oa), (Str.ofString "left", .ref ll), (Str.ofString "path", .ref pl)] z := by
    intro z hz
    have hz1 : z ≠ Str.ofString "order" := fun e => by rw [e] at hz; exact absurd hz (by decide)
    have hz2 : z ≠ Str.ofString "one" := fun e => by rw [e] at hz; exact absurd hz (by decide)
    have hz3 : z ≠ Str.ofString "best" := fun e => by rw [e] at hz; exact absurd hz (by decide)
    have e1 := (hs5 z (by simp [hz2, hz3])).trans (kstB_self (by kst_all))
    by_cases hp : z = Str.ofString "path"
    · subst hp; rfl
    · show kstB m3 _ z = _
      simp only [kstB, hz3, hp, if_false]
      rw [e1]
      simp only [kstB, hz1, hz3, hp, if_false]
  clear F3 N3 F4 F5 N5 hsub hs5
  k_with "call ref" => refine hold ?_
  k_steps
  unfold Hold
  rename Fr _ _ _ _ => F7
  rename News _ _ _ _ => N7
  refine use (pc_in w pl ((pq ++ [c]).map st1) (st1 b) (kt b)) B F7 N7 X T rfl rfl (room1 hd (by decide)) (room3 hu (by decide)) ⟨_, News.isList N7 (.head _), tkv_strs _ _⟩ ?_
  rintro _ h4 tk4 F8 N8 _ rfl
  clear F7 N7
  rw [any_st1]
  k_with_none
  cases hin : (pq ++ [c]).contains b with
  | true =>
    k_steps
    rename Fr _ _ _ _ => F9
    rename News _ _ _ _ => N9
    exact hQ0 _ _ ⟨_, _, _, _, rfl, rfl, F9, N9, same6, b, hb, .inl ⟨List.contains_iff_mem.mp hin, fun p h => h, rfl⟩⟩
  | false =>
    k_with "call builtin:list.append" => refine hold ?_
    k_steps
    unfold Hold
    k_with_none
    rename Fr _ _ _ _ => F9
    rename News _ _ _ _ => N9
    refine append_K (its := (tkv kt (pq ++ [c])).toArray) (n := np) F9 N9 (Upd.head fun p hp => by
      rcases List.mem_cons.mp hp with rfl | hp
      · exact hap.1
      · rw [List.mem_singleton.mp hp]; exact hap.2) ?_ (by simp only [sizeLine_eq, List.size_toArray]; omega)
    intro h5 F10 N10
    k_steps
    rename Fr _ _ _ _ => F11
    rename News _ _ _ _ => N11
    have e9 : (tkv kt (pq ++ [c])).toArray.push (.str (st1 b) (kt b)) = (tkv kt ((pq ++ [c]) ++ [b])).toArray := by simp [tkv]
    rw [e9] at N11
    refine hQ0 _ _ ⟨_, _, _, _, rfl, rfl, F11, N11, ?_, b, hb, .inr ⟨fun h => (by rw [List.contains_iff_mem.mpr h] at hin; cases hin), ⟨_, fun p h => h⟩, _, rfl⟩⟩
    intro z hz
    have hz3 : z ≠ Str.ofString "best" := fun e => by rw [e] at hz; exact absurd hz (by decide)
    simp only [hz3, if_false]
    exact same6 z hz
end Wr50
end
section
set_option maxRecDepth 100000
set_option maxHeartbeats 4000000
namespace Wr50
open PySem PySem.W PySem.Calls PyProof.Rows
@[reducible] noncomputable def ws24 : { l : Stmt // l = wb24.1.getD 2 st0 } := by
  apply cap
  conv => rhs; whnf
/-- the order of client c -/
noncomputable abbrev oo (os : List (List Nat)) (c : Nat) : List Nat := os.getD (ltrs.idxOf c) []
/-- each on the path points at the next -/
noncomputable def Path (os : List (List Nat)) (lv pv : List Nat) : Prop := pv.Nodup ∧ (∀ x ∈ pv, x ∈ lv) ∧ ∀ j x y, pv[j]? = some x → pv[j + 1]? = some y → IsTop (oo os x) lv y
theorem path_one (os : List (List Nat)) (lv : List Nat) (x : Nat) (h : x ∈ lv) : Path os lv [x] :=
  ⟨by simp, fun y hy => by rw [List.mem_singleton.mp hy]; exact h, fun j x y _ h2 => by simp at h2⟩
theorem path_app {os : List (List Nat)} {lv pq : List Nat} {c b : Nat} (h : Path os lv (pq ++ [c])) (hb : IsTop (oo os c) lv b) (hn : b ∉ pq ++ [c]) : Path os lv ((pq ++ [c]) ++ [b]) := by
  obtain ⟨h1, h2, h3⟩ := h
  refine ⟨?_, ?_, ?_⟩
  · rw [List.nodup_append]
    exact ⟨h1, by simp, fun a ha d hd e => hn (by rw [List.mem_singleton.mp hd] at e; exact e ▸ ha)⟩
  · intro x hx
    rcases List.mem_append.mp hx with hx | hx
    · exact h2 x hx
    · rw [List.mem_singleton.mp hx]; exact hb.1
  · intro j x y hx hy
    by_cases hj : j + 1 < (pq ++ [c]).length
    · rw [List.getElem?_append_left hj] at hy
      rw [List.getElem?_append_left (by omega)] at hx
      exact h3 j x y hx hy
    · have hl : (pq ++ [c]).length = pq.length + 1 := by simp
      have hj2 : j + 1 = pq.length + 1 := by
        have : j + 1 < ((pq ++ [c]) ++ [b]).length := by
          rcases Nat.lt_or_ge (j + 1) ((pq ++ [c]) ++ [b]).length with h | h
          · exact h
          · rw [List.getElem?_eq_none h] at hy; cases hy
        rw [List.length_append, hl] at this
        simp only [List.length_cons, List.length_nil] at this
        omega
      have hjj : j = pq.length := by omega
      subst hjj
      rw [List.getElem?_append_right (by rw [hl]; omega), hl] at hy
      simp at hy hx
      subst hx hy
      exact hb
theorem nodup_len {l lv : List Nat} (h : l.Nodup) (hs : ∀ x ∈ l, x ∈ lv) : l.length ≤ lv.length := List.Nodup.length_le_of_subset h hs
theorem last_split {l : List Nat} (h : l ≠ []) : ∃ q c, l = q ++ [c] := ⟨l.dropLast, l.getLast h, (List.dropLast_concat_getLast h).symm⟩
/-- where a path ends: its last points at one on it -/
noncomputable def Closed (os : List (List Nat)) (lv pv : List Nat) (b : Nat) : Prop := b ∈ pv ∧ ∃ q c, pv = q ++ [c] ∧ IsTop (oo os c) lv b
noncomputable def bestV (kt : Nat → Tok) (te : Tok) : Option Nat → Value
  | none => .str (Str.ofString "") te
  | some b => .str (st1 b) (kt b)
theorem st1_nonempty (b : Nat) : (st1 b == Str.ofString "") = false := by
  cases q : (st1 b == Str.ofString "") with
  | false => rfl
  | true => exact absurd (congrArg PySem.Str.length (LawfulBEq.eq_of_beq q)) (show ¬ (1 = 0) by decide)
theorem path_loop : ∀ (w : World) (os : List (List Nat)) (_ : os.length = 4) (_ : ∀ o ∈ os, o ∈ perms4) (b0 : Nat) (r : List Nat) (_ : ∀ x ∈ b0 :: r, x ∈ ltrs) (_ : (b0 :: r).length ≤ 4) (kt : Nat → Tok) (tb : Nat) (_ : TokOk kt tb) (te : Tok) (dp un : Nat) (gd : Option (List Code)) (frs : List Env) (base g : Heap) (mean : ExcName → Option Value) (mg mb : PySem.Str → Option Value)
   (_ : Below (ar dp un gd frs) base frs g) (_ : (KF w.params).In g) (_ : Top qv lo mean mg mb g) (_ : dp + 3 < recursionLimit) (_ : un + 20 < cLine)
   (L oa ll pl gl : Addr) (_ : gl ≠ pl ∧ ll ≠ pl) (np nl : Nat) (go : Obj) (_ : IsStrs g oa (os.map stL)) (s : Shared) (_ : tb ≤ s.toks) (E : Value → Shared → Prop) (U : PySem.Str → Option Value)
   (_ : Fr g L s.heap (kstB U [(Str.ofString "best", .str (Str.ofString "") te), (Str.ofString "orders", .ref oa), (Str.ofString "left", .ref ll), (Str.ofString "path", .ref pl)])) (_ : News g L s.heap [(pl, W.listOf (tkv kt [b0]).toArray np), (gl, go), (ll, W.listOf (tkv kt (b0 :: r)).toArray nl)])
   (_ : PassesOwn (model PySem.Challenge.rw_wr0050_01.prog w) ((ar dp un gd frs).deeper (env24 L)) (env24 L) E),
   wpAny (model PySem.Challenge.rw_wr0050_01.prog w) ((ar dp un gd frs).deeper (env24 L)) (exec ws24.1 (env24 L))
       (TurnW s g L (kstB U [(Str.ofString "best", .str (Str.ofString "") te), (Str.ofString "orders", .ref oa), (Str.ofString "left", .ref ll), (Str.ofString "path", .ref pl)]) [Str.ofString "order", Str.ofString "one", Str.ofString "best"]
         (fun m' nw' => ∃ pv b np', Path os (b0 :: r) pv ∧ Closed os (b0 :: r) pv b ∧ (∀ p ∈ [(pl, W.listOf (tkv kt pv).toArray np'), (gl, go), (ll, W.listOf (tkv kt (b0 :: r)).toArray nl)], p ∈ nw') ∧ m' (Str.ofString "best") = some (.str (st1 b) (kt b)))) E s := by
  k_fill
  intro w os hol hos b0 r hr hrl kt tb hk te dp un gd frs base g mean mg mb B X T hd hu L oa ll pl gl hap np nl go hoa s ht E U F N hE
  refine hideQ ?_
  intro Q0 hQ0
  refine while_T (σ := List Nat × Option Nat × Tok × Nat) tb (fun c => [(pl, W.listOf (tkv kt c.1).toArray c.2.2.2), (gl, go), (ll, W.listOf (tkv kt (b0 :: r)).toArray nl)]) (fun c => [(Str.ofString "best", bestV kt c.2.2.1 c.2.1)]) [Str.ofString "order", Str.ofString "one"]
    (fun c => Path os (b0 :: r) c.1 ∧ c.1 ≠ [] ∧ ∀ b, c.2.1 = some b → Closed os (b0 :: r) c.1 b) (fun c => 2 * (5 - c.1.length) + (if c.2.1 = none then 1 else 0)) ([b0], none, te, np) ht F N (by kst_all) ⟨path_one _ _ _ (.head _), by simp, fun b h => by cases h⟩ ?_ hE
  rintro ⟨pv, ob, t1, np1⟩ u h1 tk1 ⟨hpath, hne, hcl⟩ htk1 F1 N1
  dsimp only at hpath hne hcl F1 N1 ⊢
  cases ob with
  | none =>
    k_with "execs cons" => refine hold ?_
    dsimp only [bestV] at F1
    k_steps
    unfold Hold
    k_with_none
    rename Fr _ _ _ _ => F2
    rename News _ _ _ _ => N2
    obtain ⟨q, c, rfl⟩ := last_split hne
    have hlen := nodup_len hpath.1 hpath.2.1
    have hq4 : q.length + 1 ≤ (b0 :: r).length := by simpa using hlen
    have hr4 : r.length + 1 ≤ 4 := by simpa using hrl
    have F3 := kst_self2 (ps := [(Str.ofString "best", .str (Str.ofString "") t1), (Str.ofString "orders", .ref oa), (Str.ofString "left", .ref ll), (Str.ofString "path", .ref pl)]) (by kst_all) F2
    refine wpAny_mono (path_turn w os hol hos q c b0 r hr (by omega) hpath.2.1 (by simp at hq4; omega) kt tb hk t1 dp un gd frs base g mean mg mb B X T hd hu L oa ll pl gl hap np1 nl go hoa _ (Nat.le_trans htk1 (Nat.le_add_right _ 1)) E _ F3 N2 hE) (fun fl s' z => ?_) fun _ _ x => x
    obtain ⟨h3, k3, m3, nw3, rfl, rfl, F4, N4, hs4, b, hb, hcase⟩ := z
    have same : ∀ z, z ≠ Str.ofString "best" → [Str.ofString "order", Str.ofString "one"].contains z = false → m3 z = kstB U [(Str.ofString "best", .str (Str.ofString "") te), (Str.ofString "orders", .ref oa), (Str.ofString "left", .ref ll), (Str.ofString "path", .ref pl)] z := by
      intro z h5 h6
      have h7 : [Str.ofString "order", Str.ofString "one", Str.ofString "best"].contains z = false := by
        simp at h6 ⊢; exact ⟨h6.1, h6.2, h5⟩
      refine (hs4 z h7).trans ((kstB_self (by kst_all)).trans ?_)
      show kstB _ _ z = _
      simp only [kstB, h5, if_false, h6, Bool.false_eq_true]
    show ForEnd _ _ _ _ _ _ _ _ _ _
    rcases hcase with ⟨hbm, hsub, hm⟩ | ⟨hbn, ⟨np', hsub⟩, t9, hm⟩
    · refine for_end (q ++ [c], some b, t1, np1) F4 N4 hsub (by intro p hp; rw [List.mem_singleton.mp hp]; exact hm) (fun z h5 h6 => same z (h5 _ (.head _)) h6) ⟨⟨hpath, hne, fun d hd => ?_⟩, ?_⟩
      · cases hd; exact ⟨hbm, q, c, rfl, hb⟩
      · simp
    · have hp2 := path_app hpath hb hbn
      have hl2 := nodup_len hp2.1 hp2.2.1
      refine for_end ((q ++ [c]) ++ [b], none, t9, np') F4 N4 hsub (by intro p hp; rw [List.mem_singleton.mp hp]; exact hm) (fun z h5 h6 => same z (h5 _ (.head _)) h6) ⟨⟨hp2, by simp, fun d hd => by cases hd⟩, ?_⟩
      simp only [List.length_append, List.length_cons, List.length_nil] at hl2 hq4 ⊢
      simp
      omega
  | some b =>
    dsimp only [bestV] at F1
    k_with "execs cons" => refine hold ?_
    k_steps
    · rename (st1 b == _) = true => hx
      rw [st1_nonempty] at hx; cases hx
    · rename Fr _ _ _ _ => F2
      rename News _ _ _ _ => N2
      refine hQ0 _ _ ⟨_, _, _, _, rfl, rfl, F2, N2, ?_, pv, b, np1, hpath, hcl b rfl, fun p h => h, rfl⟩
      intro z hz
      have hz1 : z ≠ Str.ofString "order" := fun e => by rw [e] at hz; exact absurd hz (by decide)
      have hz2 : z ≠ Str.ofString "one" := fun e => by rw [e] at hz; exact absurd hz (by decide)
      have hz3 : z ≠ Str.ofString "best" := fun e => by rw [e] at hz; exact absurd hz (by decide)
      have h6 : [Str.ofString "order", Str.ofString "one"].contains z = false := by simp [hz1, hz2]
      show kstB _ _ z = _
      simp only [kstB, hz3, if_false, h6, Bool.false_eq_true]
end Wr50
end
section
set_option maxRecDepth 100000
set_option maxHeartbeats 4000000
namespace Wr50
open PySem PySem.W PySem.Calls PyProof.Rows
theorem tkv_erase (kt : Nat → Tok) : ∀ (l : List Nat) (i : Nat), (tkv kt l).eraseIdx i = tkv kt (l.eraseIdx i)
  | [], _ => rfl
  | _ :: _, 0 => rfl
  | c :: l, i + 1 => congrArg (Value.str (st1 c) (kt c) :: ·) (tkv_erase kt l i)
theorem strs_set : ∀ {vs : List Value} {ys : List PySem.Str}, StrsAre vs ys → ∀ (j : Nat) (x : PySem.Str) (u : Tok), StrsAre (vs.set j (.str x u)) (ys.set j x)
  | _, _, .nil, _, _, _ => .nil
  | _, _, .cons _ _ h, 0, x, u => .cons x u h
  | _, _, .cons i t h, j + 1, x, u => .cons i t (strs_set h j x u)
section
variable {prog : Program} {w : World} {A : Around} {E : Value → Shared → Prop} {s : Shared} {h₀ : Heap} {L D : Addr} {m : PySem.Str → Option Value} {own rest : List (Addr × Obj)} {vs : List Value} {n k : Nat} {t : Tok}
theorem set_K {v : Value} {Q : Unit → Shared → Prop} (F : Fr h₀ L s.heap m) (N : News h₀ L s.heap (own ++ (D, W.listOf vs.toArray n) :: rest)) (h1 : ∀ p ∈ own, p.1 ≠ D) (h2 : ∀ p ∈ rest, p.1 ≠ D) (hk : k < vs.length) (hz : vs.length ≤ 100)
    (hQ : ∀ h', Fr h₀ L h' m → News h₀ L h' (own ++ (D, W.listOf (vs.set k v).toArray n) :: rest) → Q () { s with heap := h' }) : wpAny (model prog w) A (setItem (.ref D) (.int (k : Nat) t) v) Q E s := by
  have z := N (D, W.listOf vs.toArray n) (List.mem_append_right _ (.head _))
  refine ki_setAt z.1 (by omega) (by omega) (by rw [List.size_toArray]; omega) (hQ _ (F.change (Heap.SameBut.update ..) z.2.1 z.2.2) (ki_turn _ N h1 h2 ?_ ?_))
  · apply Array.toList_inj.mp; simp
  · simp
theorem del_K {Q : Unit → Shared → Prop} (F : Fr h₀ L s.heap m) (N : News h₀ L s.heap (own ++ (D, W.listOf vs.toArray n) :: rest)) (h1 : ∀ p ∈ own, p.1 ≠ D) (h2 : ∀ p ∈ rest, p.1 ≠ D) (hk : k < vs.length) (hz : vs.length ≤ 100)
    (hQ : ∀ h', Fr h₀ L h' m → News h₀ L h' (own ++ (D, W.listOf (vs.eraseIdx k).toArray (n + 1)) :: rest) → Q () { s with heap := h' }) : wpAny (model prog w) A (delItem (.ref D) (.int (k : Nat) t)) Q E s := by
  have z := N (D, W.listOf vs.toArray n) (List.mem_append_right _ (.head _))
  refine delItem_at (k := k) (its := vs.toArray) (n := n) z.1 ?_ ?_ (fun h' hs ho => hQ h' (F.change hs z.2.1 z.2.2) (N.setAt h1 h2 hs ho)) (by rw [List.size_toArray]; simp only [sizeLine_eq]; omega)
  · exact fitsIndex_of (by omega) (by omega)
  · unfold seqIndex?
    rw [List.size_toArray]
    simp [show ¬ ((k : Int) < 0) by omega]; omega
end
theorem ring_turn : ∀ (w : World) (rv lv : List Nat) (gs : List PySem.Str) (gvs : List Value) (k x y : Nat) (_ : rv[k]? = some y) (_ : (if k = 0 then rv[rv.length - 1]? else rv[k - 1]?) = some x) (_ : ∀ z ∈ rv, z ∈ ltrs) (_ : ∀ z ∈ lv, z ∈ ltrs) (_ : y ∈ lv) (_ : rv.length ≤ 4) (_ : lv.length ≤ 4) (_ : StrsAre gvs gs) (_ : gs.length = 4) (kt : Nat → Tok) (tb : Nat) (_ : TokOk kt tb) (t0 : Tok) (dp un : Nat) (gd : Option (List Code)) (frs : List Env) (base g : Heap) (mean : ExcName → Option Value) (mg mb : PySem.Str → Option Value)
   (_ : Below (ar dp un gd frs) base frs g) (_ : (KF w.params).In g) (_ : Top qv lo mean mg mb g) (_ : dp + 3 < recursionLimit) (_ : un + 20 < cLine)
   (L ll rl gl : Addr) (_ : gl ≠ rl ∧ ll ≠ rl ∧ gl ≠ ll) (nr nl ng : Nat) (it : Addr) (io : Obj) (_ : it ≠ gl ∧ it ≠ ll ∧ it ≠ rl) (s : Shared) (_ : tb ≤ s.toks) (E : Value → Shared → Prop) (U : PySem.Str → Option Value)
   (_ : Fr g L s.heap (kstB U [(Str.ofString "gets", .ref gl), (Str.ofString "left", .ref ll), (Str.ofString "ring", .ref rl)])) (_ : News g L s.heap [(it, io), (gl, W.listOf gvs.toArray ng), (ll, W.listOf (tkv kt lv).toArray nl), (rl, W.listOf (tkv kt rv).toArray nr)]),
   wpAny (model PySem.Challenge.rw_wr0050_01.prog w) ((ar dp un gd frs).deeper (env24 L)) (assign ft24c.1 (env24 L) (.int (k : Nat) t0))
     (fun _ s₂ => wpAny (model PySem.Challenge.rw_wr0050_01.prog w) ((ar dp un gd frs).deeper (env24 L)) (execs fb24c.1 (env24 L))
       (TurnW s g L (kstB U [(Str.ofString "gets", .ref gl), (Str.ofString "left", .ref ll), (Str.ofString "ring", .ref rl)]) [Str.ofString "k"]
         (fun m' nw' => ∃ gvs' ng' nl', StrsAre gvs' (gs.set (ltrs.idxOf x) (st1 y)) ∧ (∀ p ∈ [(it, io), (gl, W.listOf gvs'.toArray ng'), (ll, W.listOf (tkv kt (lv.eraseIdx (lv.idxOf y))).toArray nl'), (rl, W.listOf (tkv kt rv).toArray nr)], p ∈ nw'))) E s₂) E s := by
  k_fill
  intro w rv lv gs gvs k x y hy hx hrv hlv hyl hrl hll hgs hgl kt tb hk t0 dp un gd frs base g mean mg mb B X T hd hu L ll rl gl hap nr nl ng it io hits s ht E U F N
  refine hideQ2 ?_
  intro Q0 hQ0
  have hkl : k < rv.length := by
    rcases Nat.lt_or_ge k rv.length with h | h
    · exact h
    · rw [List.getElem?_eq_none h] at hy; cases hy
  obtain ⟨hp, gns, dr, tk0, os⟩ := s
  dsimp only at ht F N ⊢
  have hxr : x ∈ rv := by split at hx <;> exact List.mem_of_getElem? hx
  have hxm := hrv x hxr
  have hym := hlv y hyl
  have hxi := idxF x hxm
  have hvr : (tkv kt rv).length = rv.length := tkv_len _ _
  k_with "execs cons" => refine hold ?_
  k_steps
  unfold Hold
  dsimp only
  k_with_none
  replace ht : tb ≤ tk0 + 1 := Nat.le_trans ht (Nat.le_succ _)
  generalize tk0 + 1 = tk1 at ht ⊢
  k_with "call ref" => refine hold ?_
  k_with "subscriptTail Name BinOp ref int" => refine hold ?_
  k_with "subscriptTail Name Name ref int" => refine hold ?_
  k_steps
  unfold Hold
  dsimp only
  rename Fr _ _ _ _ => F1
  rename News _ _ _ _ => N1
  have hitem : ∀ (Q : Value → Shared → Prop) (E' : Value → Shared → Prop) (A : Around) (s' : Shared) (value slice : PySem.Expr) (u : Tok), s'.heap.IsList rl (tkv kt rv).toArray → Q (.str (st1 x) (kt x)) s' →
      subscripted slice false (.ref rl) (.int ((k : Int) - 1) u) = operate [.ref rl, .int ((k : Int) - 1) u] (getItem (.ref rl) (.int ((k : Int) - 1) u)) →
      wpAny (model PySem.Challenge.rw_wr0050_01.prog w) A (subscriptTail value slice (.ref rl) (.int ((k : Int) - 1) u)) Q E' s' := by
    intro Q E' A s' value slice u hl hq hs
    by_cases hk0 : k = 0
    · rw [if_pos hk0] at hx
      refine item_neg hl (by omega) (by omega) (by omega) (tkv_at ?_) hq hs
      rw [hvr, show ((k : Int) - 1 + (rv.length : Int)).toNat = rv.length - 1 by omega]; exact hx
    · rw [if_neg hk0] at hx
      refine item_pos hl (by omega) (by omega) (tkv_at ?_) hq hs
      rw [show ((k : Int) - 1).toNat = k - 1 by omega]; exact hx
  refine hitem _ _ _ _ _ _ _ (News.isList N1 (.tail _ (.tail _ (.tail _ (.head _))))) ?_ (by with_unfolding_all rfl)
  k_steps
  unfold Hold
  rename Fr _ _ _ _ => F2
  rename News _ _ _ _ => N2
  refine useT (ps_idxF w x _ (kt x) hxm).toT B F2 N2 X T rfl rfl (room1 hd (by decide)) (room3 hu (by decide)) ⟨hk.pos x hxm, Nat.lt_of_lt_of_le (hk.lt x hxm) (Nat.le_trans ht (Nat.le_add_right _ 3))⟩ ?_
  rintro _ h3 tk3 F3 N3 _ ⟨t3, rfl⟩ ht3
  clear F2 N2
  k_steps
  unfold Hold
  dsimp only
  refine item_pos (News.isList N3 (.tail _ (.tail _ (.tail _ (.head _))))) (by omega) (by omega) (tkv_at (by rw [Int.toNat_natCast]; exact hy)) ?_
  k_steps
  unfold Hold
  k_with_none
  ((refine wpAny_call ?_; refine' code_def ?k1 ?k2 ?k3 ?k4 ?k5 ?kA ?kF ?kK ?k6 ?k7 ?k8 ?k9 ?kB ?_ ?c2 ?c3 ?c4 ?c5; (case kA => exact rfl); (case kF => exact rfl); (case kK => exact rfl); (case k1 => k_asm); (case k2 => k_asm); (case k3 => k_asm); (case k4 => k_asm); (case k5 => k_asm); (case k6 => k_is); (case k7 => k_is); (case k8 => ktr_room); (case k9 => exact BindsTo.of_eq rfl); (case c5 => decide); (case kB => exact locs rfl); (case c2 => exact rfl); (case c3 => exact rfl); (case c4 => exact rfl); k_whole; intro g' L' h' FG' F' N' B' X' T'; (try dsimp only); (try k_lift B'); (try k_fold)))
  k_with "call ref" => refine hold ?_
  k_with "subscriptTail Name Name ref int" => refine hold ?_
  k_steps
  rename Fr _ _ _ _ => F4
  rename News _ _ _ _ => N4
  refine set_K (own := [(it, io)]) F4 N4 (by intro p hp; rw [List.mem_singleton.mp hp]; exact hits.1) (by
    intro p hp
    rcases List.mem_cons.mp hp with rfl | hp
    · exact hap.2.2.symm
    · rw [List.mem_singleton.mp hp]; exact hap.1.symm) (by rw [hgs.length, hgl]; exact hxi) (by rw [hgs.length, hgl]; decide) ?_
  intro h5 F5 N5
  replace N5 : News _ _ h5 [(it, io), (gl, W.listOf (gvs.set (ltrs.idxOf x) (.str (st1 y) (kt y))).toArray ng), (ll, W.listOf (tkv kt lv).toArray nl), (rl, W.listOf (tkv kt rv).toArray nr)] := N5
  k_steps
  unfold Hold
  dsimp only
  rename Fr _ L _ _ => F6
  rename News _ L _ _ => N6
  clear F5 N5 F4 N4 F3 N3
  refine item_pos (News.isList N6 (.tail _ (.tail _ (.tail _ (.head _))))) (by omega) (by omega) (tkv_at (by rw [Int.toNat_natCast]; exact hy)) ?_
  k_steps
  unfold Hold
  refine useT (ps_idxL w ll lv y kt tb hk hlv hll hyl).toT B F6 N6 X T rfl rfl (room1 hd (by decide)) (room3 hu (by decide)) (News.isList N6 (.tail _ (.tail _ (.head _)))) ?_
  rintro _ h7 tk7 F7 N7 _ ⟨t7, rfl⟩ _
  clear F6 N6
  k_steps
  unfold Hold
  k_with_none
  ((refine wpAny_call ?_; refine' code_def ?k1 ?k2 ?k3 ?k4 ?k5 ?kA ?kF ?kK ?k6 ?k7 ?k8 ?k9 ?kB ?_ ?c2 ?c3 ?c4 ?c5; (case kA => exact rfl); (case kF => exact rfl); (case kK => exact rfl); (case k1 => k_asm); (case k2 => k_asm); (case k3 => k_asm); (case k4 => k_asm); (case k5 => k_asm); (case k6 => k_is); (case k7 => k_is); (case k8 => ktr_room); (case k9 => exact BindsTo.of_eq rfl); (case c5 => decide); (case kB => exact locs rfl); (case c2 => exact rfl); (case c3 => exact rfl); (case c4 => exact rfl); k_whole; intro g' L' h' FG' F' N' B' X' T'; (try dsimp only); (try k_lift B'); (try k_fold)))
  k_with "delItem" => refine hold ?_
  k_steps
  unfold Hold
  k_with_none
  rename Fr _ _ _ _ => F8
  rename News _ _ _ _ => N8
  refine del_K (own := [(it, io), (gl, _)]) F8 N8 (by
    intro p hp
    rcases List.mem_cons.mp hp with rfl | hp
    · exact hits.2.1
    · rw [List.mem_singleton.mp hp]; exact hap.2.2) (by
    intro p hp
    rw [List.mem_singleton.mp hp]; exact hap.2.1.symm) (by rw [tkv_len]; exact List.idxOf_lt_length_of_mem hyl) (by rw [tkv_len]; omega) ?_
  intro h9 F9 N9
  have e9 : (tkv kt lv).eraseIdx (lv.idxOf y) = tkv kt (lv.eraseIdx (lv.idxOf y)) := tkv_erase kt lv _
  rw [e9] at N9
  replace N9 : News _ _ h9 [(it, io), (gl, W.listOf (gvs.set (ltrs.idxOf x) (.str (st1 y) (kt y))).toArray ng), (ll, W.listOf (tkv kt (lv.eraseIdx (lv.idxOf y))).toArray (nl + 1)), (rl, W.listOf (tkv kt rv).toArray nr)] := N9
  k_steps
  rename Fr _ L _ _ => Fa
  rename News _ L _ _ => Na
  refine hQ0 _ _ ⟨_, _, _, _, rfl, rfl, Fa, Na, ?_, _, _, _, strs_set hgs _ _ _, fun p h => h⟩
  intro z h3; simp at h3; simp [h3]
end Wr50
end
section
set_option maxRecDepth 100000
set_option maxHeartbeats 4000000
namespace Wr50
open PySem PySem.W PySem.Calls PyProof.Rows
noncomputable def prv (rv : List Nat) (i : Nat) : Nat := if i = 0 then rv.getD (rv.length - 1) 0 else rv.getD (i - 1) 0
/-- a ring: each gets what it points at, of what is left -/
noncomputable def Ring (os : List (List Nat)) (lv rv : List Nat) : Prop := rv ≠ [] ∧ rv.Nodup ∧ (∀ x ∈ rv, x ∈ lv) ∧ ∀ k, k < rv.length → IsTop (oo os (prv rv k)) lv (rv.getD k 0)
theorem ring_of {os : List (List Nat)} {lv pv : List Nat} {b : Nat} (hp : Path os lv pv) (hc : Closed os lv pv b) : Ring os lv (pv.drop (pv.idxOf b)) := by
  obtain ⟨h1, h2, h3⟩ := hp
  obtain ⟨hb, q, c, rfl, ht⟩ := hc
  have hi := List.idxOf_lt_length_of_mem hb
  have hl : (q ++ [c]).length = q.length + 1 := by simp
  have hat : (q ++ [c])[(q ++ [c]).idxOf b] = b := List.getElem_idxOf hi
  generalize hj : (q ++ [c]).idxOf b = j at hi hat ⊢
  have hdl : ((q ++ [c]).drop j).length = q.length + 1 - j := by rw [List.length_drop, hl]
  refine ⟨fun e => ?_, h1.sublist (List.drop_sublist _ _), fun x hx => h2 x (List.mem_of_mem_drop hx), ?_⟩
  · rw [e] at hdl; simp at hdl; omega
  · intro k hk
    rw [hdl] at hk
    have hg : ∀ i, i < q.length + 1 - j → ((q ++ [c]).drop j)[i]? = (q ++ [c])[j + i]? := fun i _ => List.getElem?_drop
    by_cases hk0 : k = 0
    · subst hk0
      have e1 : prv ((q ++ [c]).drop j) 0 = c := by
        unfold prv
        rw [if_pos rfl, hdl, List.getD_eq_getElem?_getD, hg _ (by omega), show j + (q.length + 1 - j - 1) = q.length by omega]
        simp
      have e2 : ((q ++ [c]).drop j).getD 0 0 = b := by
        rw [List.getD_eq_getElem?_getD, hg _ (by omega), Nat.add_zero, List.getElem?_eq_getElem hi, hat]; rfl
      rw [e1, e2]; exact ht
    · have hk1 : j + (k - 1) < (q ++ [c]).length := by omega
      have hk2 : j + k < (q ++ [c]).length := by omega
      have e1 : prv ((q ++ [c]).drop j) k = (q ++ [c])[j + (k - 1)] := by
        unfold prv
        rw [if_neg hk0, List.getD_eq_getElem?_getD, hg _ (by omega), List.getElem?_eq_getElem hk1]; rfl
      have e2 : ((q ++ [c]).drop j).getD k 0 = (q ++ [c])[j + k] := by
        rw [List.getD_eq_getElem?_getD, hg _ hk, List.getElem?_eq_getElem hk2]; rfl
      rw [e1, e2]
      refine h3 (j + (k - 1)) _ _ (List.getElem?_eq_getElem hk1) ?_
      rw [show j + (k - 1) + 1 = j + k by omega]
      exact List.getElem?_eq_getElem hk2
/-- what is left, and who has got what, when i of a ring are served -/
noncomputable def ringL (lv rv : List Nat) : Nat → List Nat
  | 0 => lv
  | i + 1 => (ringL lv rv i).eraseIdx ((ringL lv rv i).idxOf (rv.getD i 0))
noncomputable def ringG (gs : List PySem.Str) (rv : List Nat) : Nat → List PySem.Str
  | 0 => gs
  | i + 1 => (ringG gs rv i).set (ltrs.idxOf (prv rv i)) (st1 (rv.getD i 0))
theorem ringG_len (gs : List PySem.Str) (rv : List Nat) : ∀ i, (ringG gs rv i).length = gs.length
  | 0 => rfl
  | i + 1 => by rw [ringG, List.length_set, ringG_len gs rv i]
theorem erase_idx (l : List Nat) (y : Nat) (h : y ∈ l) : l.eraseIdx (l.idxOf y) = l.erase y := by
  induction l with
  | nil => cases h
  | cons a l ih =>
    rw [List.idxOf_cons, List.erase_cons]
    by_cases e : a == y
    · rw [e]; rfl
    · have e' : (a == y) = false := by simpa using e
      rw [e']
      have hm : y ∈ l := by
        rcases List.mem_cons.mp h with h | h
        · subst h; simp at e
        · exact h
      show a :: l.eraseIdx (l.idxOf y) = _
      rw [ih hm]; rfl
theorem nodup_idx {l : List Nat} (h : l.Nodup) {i j : Nat} (hi : i < l.length) (hj : j < l.length) (e : l[j] = l[i]) : j = i := by
  have h1 := h.idxOf_getElem j hj
  have h2 := h.idxOf_getElem i hi
  rw [e] at h1
  omega
theorem ringL_is {lv rv : List Nat} (hn : lv.Nodup) (hr : rv.Nodup) (hs : ∀ x ∈ rv, x ∈ lv) : ∀ i, i ≤ rv.length → (ringL lv rv i).Nodup ∧ ∀ x, x ∈ ringL lv rv i ↔ x ∈ lv ∧ x ∉ rv.take i
  | 0, _ => ⟨hn, fun x => by simp [ringL]⟩
  | i + 1, hi => by
    obtain ⟨h1, h2⟩ := ringL_is hn hr hs i (by omega)
    have hlt : i < rv.length := hi
    have ey : rv.getD i 0 = rv[i] := by rw [List.getD_eq_getElem?_getD, List.getElem?_eq_getElem hlt]; rfl
    have hy : rv[i] ∉ rv.take i := by
      intro hm
      obtain ⟨j, hj, e⟩ := List.getElem_of_mem hm
      rw [List.length_take] at hj
      rw [List.getElem_take] at e
      have := nodup_idx hr hlt (by omega) e
      omega
    have hym : rv.getD i 0 ∈ ringL lv rv i := by rw [ey]; exact (h2 _).mpr ⟨hs _ (List.getElem_mem hlt), hy⟩
    rw [ringL, erase_idx _ _ hym]
    refine ⟨h1.erase _, fun x => ?_⟩
    have et : rv.take (i + 1) = rv.take i ++ [rv[i]] := by rw [List.take_add_one, List.getElem?_eq_getElem hlt]; rfl
    rw [h1.mem_erase_iff, h2, et, ey, List.mem_append, List.mem_singleton, not_or]
    exact ⟨fun ⟨a, b, c⟩ => ⟨b, c, a⟩, fun ⟨b, c, a⟩ => ⟨a, b, c⟩⟩
theorem ringL_mem {lv rv : List Nat} (hn : lv.Nodup) (hr : rv.Nodup) (hs : ∀ x ∈ rv, x ∈ lv) (i : Nat) (hi : i < rv.length) : rv.getD i 0 ∈ ringL lv rv i := by
  have ey : rv.getD i 0 = rv[i] := by rw [List.getD_eq_getElem?_getD, List.getElem?_eq_getElem hi]; rfl
  refine ((ringL_is hn hr hs i (by omega)).2 _).mpr ⟨by rw [ey]; exact hs _ (List.getElem_mem hi), ?_⟩
  rw [ey]
  intro hm
  obtain ⟨j, hj, e⟩ := List.getElem_of_mem hm
  rw [List.length_take] at hj
  rw [List.getElem_take] at e
  have := nodup_idx hr hi (by omega) e
  omega
end Wr50
end
section
set_option maxRecDepth 100000
set_option maxHeartbeats 4000000
namespace Wr50
open PySem PySem.W PySem.Calls PyProof.Rows
@[reducible] noncomputable def fs24c : { l : Stmt // l = wb24.1.getD 4 st0 } := by
  apply cap
  conv => rhs; whnf
theorem range_small : ∀ n : Fin 9, Builtin.Range.rangeSize 0 (n.val : Int) 1 = (n.val : Int) ∧ Builtin.Range.small 0 (n.val : Int) 1 = true := by decide
section
variable {prog : Program} {w : World} {A : Around} {E : Value → Shared → Prop} {s : Shared} {env : Env} {h₀ : Heap} {body orelse : List Stmt} {Q : Flow → Shared → Prop}
theorem rangeTurns {x : PySem.Str} {px : Pos} (hh : A.handled = none) (I : Addr) (n : Nat) :
    KTurns prog w A (.Name x px) I [I] [I] n (fun i v _ => ∃ t, v = .int (i : Nat) t) (fun i v h => (∃ t, v = .int (i : Nat) t) ∧ IsRangeIter h I (0 + ((i + 1 : Nat) : Int) * 1) ((n : Int) - ((i + 1 : Nat) : Int)) 1) (fun i h => IsRangeIter h I (0 + (i : Nat) * 1) ((n : Int) - (i : Nat)) 1) := by
  have W := Walks.range (prog := prog) (w := w) hh I 0 1 n
  refine ⟨W.sub, W.frame, fun i s Q E hi st hQ => W.item i s Q E hi st fun v h' tk hP st' hk => ?_, fun i v s Q E hm hQ => wpAny_of_eq (a := ()) rfl (hQ s.heap hm.1 hm.2 fun _ _ _ e => e), W.done⟩
  obtain ⟨t, rfl⟩ := hP
  exact hQ _ h' tk ⟨⟨t, by congr 1; omega⟩, st'⟩ hk
theorem objs_one {w : Addr × String} {its : List (Addr × Obj)} (h : Objs [w] its) : ∃ o, its = [(w.1, o)] := by
  cases its with
  | nil => exact False.elim h
  | cons p r => cases r with
    | nil => exact ⟨p.2, by rw [← h.1.1]⟩
    | cons q r => exact False.elim h.2
/-- a loop over range(n), n small -/
theorem for_range {σ : Type} {x : PySem.Str} {px : Pos} {r : Addr} {n : Nat} {t0 u0 v0 : Tok} {m₀ : PySem.Str → Option Value} (tb : Nat) (as : List Addr) (Led : σ → List (Addr × Obj)) (ps : σ → List (PySem.Str × Value)) (stored : List PySem.Str) (P : Nat → σ → Prop) (c₀ : σ)
    (hh : A.handled = none) (hr : IsRange s.heap r 0 (n : Nat) 1 t0 u0 v0) (hn : n ≤ 8) (htb : tb ≤ s.toks) (F : Fr h₀ env.locals s.heap m₀) (N : News h₀ env.locals s.heap (Led c₀)) (hk : ∀ p ∈ ps c₀, m₀ p.1 = some p.2) (hp : P 0 c₀) (has : ∀ c, ∀ p ∈ Led c, p.1 ∈ as) (hlt : ∀ a ∈ as, ∃ o, (a, o) ∈ Led c₀)
    (turn : ∀ (i : Nat) (t : Tok) (c : σ) (u : PySem.Str → Option Value) (h : Heap) (tk : Nat) (it : Addr) (io : Obj), i < n → P i c → tb ≤ tk → it ∉ as →
      Fr h₀ env.locals h (kstB (fun z => if stored.contains z then u z else m₀ z) (ps c)) → News h₀ env.locals h ((it, io) :: Led c) →
      wpAny (model prog w) A (assign (.Name x px) env (.int (i : Nat) t)) (fun _ s₂ => wpAny (model prog w) A (execs body env) (ForPost h₀ env.locals s [(it, io)] Led ps stored m₀ (P (i + 1)) Q) E s₂) E { s with heap := h, toks := tk })
    (done : ∀ (c : σ) (u : PySem.Str → Option Value) (h : Heap) (tk : Nat), P n c → tb ≤ tk → Fr h₀ env.locals h (kstB (fun z => if stored.contains z then u z else m₀ z) (ps c)) → News h₀ env.locals h (Led c) →
      wpAny (model prog w) A (execs orelse env) Q E { s with heap := h, toks := tk })
    (hE : PassesOwn (model prog w) A env E := by passes_own) :
    wpAny (model prog w) A (pyIter (.ref r)) (fun it s₂ => codeAny (model prog w) A (.forLoop (.Name x px) it body orelse env) (fun r s' => match r with | .ok f => Q f s' | .error e => cameBackBy (model prog w) A env E e s') s₂) E s := by
  obtain ⟨hz, hs⟩ := range_small ⟨n, by omega⟩
  have lt : ∀ a ∈ as, a < s.heap.objs.size := fun a ha => let ⟨_, ho⟩ := hlt a ha; Heap.lt_size (N _ ho).1
  refine wpAny_pyIter_range hr hs ?_
  dsimp only at hz
  rw [hz]
  refine for_T (s := { s with heap := s.heap.push { cls := .type "range_iterator", data := .fields #[rawInt 0, rawInt (n : Nat), rawInt 1] } }) (ws := [(s.heap.objs.size, "range_iterator")]) tb as Led ps stored P c₀
    (KTb.of (rangeTurns hh s.heap.objs.size n)) htb ?_ (F.push _) (fun p hp => ⟨Heap.get?_push_of_some _ (N p hp).1, (N p hp).2⟩) hk hp has ?_ (fun b hb => by simpa using hb) ?_ (fun b hb => .inl (by simpa using hb)) ?_ ?_ ?_
  · show IsRangeIter _ _ _ _ _
    simpa using Heap.get?_push_size _ rfl
  · intro a ha hb
    have hb' : a = s.heap.objs.size := by simpa using hb
    exact Nat.ne_of_lt (lt a ha) hb'
  · intro b hb
    have hb' : b = s.heap.objs.size := by simpa using hb
    rw [hb']
    exact ⟨next_is_new F, Nat.ne_of_gt F.ns.lt⟩
  · intro i h st
    exact ⟨[(s.heap.objs.size, _)], ⟨⟨rfl, rfl⟩, trivial⟩, fun p hp => by rw [List.mem_singleton.mp hp]; exact st⟩
  · intro i v c u h tk its hi hP hv ht hits F' N'
    obtain ⟨t, rfl⟩ := hv
    obtain ⟨o, rfl⟩ := objs_one hits
    exact turn i t c u h tk s.heap.objs.size o hi hP ht (fun hb => Nat.lt_irrefl _ (lt _ hb)) F' N'
  · intro c u h tk hP ht F' N'
    exact done c u h tk hP ht F' N'
end
theorem ring_loop : ∀ (w : World) (rv lv : List Nat) (gs : List PySem.Str) (gvs : List Value) (_ : ∀ z ∈ lv, z ∈ ltrs) (_ : lv.Nodup) (_ : rv.Nodup) (_ : ∀ x ∈ rv, x ∈ lv) (_ : rv.length ≤ 4) (_ : lv.length ≤ 4) (_ : StrsAre gvs gs) (_ : gs.length = 4) (kt : Nat → Tok) (tb : Nat) (_ : TokOk kt tb) (dp un : Nat) (gd : Option (List Code)) (frs : List Env) (base g : Heap) (mean : ExcName → Option Value) (mg mb : PySem.Str → Option Value)
   (_ : Below (ar dp un gd frs) base frs g) (_ : (KF w.params).In g) (_ : Top qv lo mean mg mb g) (_ : dp + 3 < recursionLimit) (_ : un + 20 < cLine)
   (L ll rl gl : Addr) (_ : gl ≠ rl ∧ ll ≠ rl ∧ gl ≠ ll) (nr nl ng : Nat) (s : Shared) (_ : tb ≤ s.toks) (E : Value → Shared → Prop) (U : PySem.Str → Option Value)
   (_ : Fr g L s.heap (kstB U [(Str.ofString "gets", .ref gl), (Str.ofString "left", .ref ll), (Str.ofString "ring", .ref rl)])) (_ : News g L s.heap [(gl, W.listOf gvs.toArray ng), (ll, W.listOf (tkv kt lv).toArray nl), (rl, W.listOf (tkv kt rv).toArray nr)])
   (_ : PassesOwn (model PySem.Challenge.rw_wr0050_01.prog w) ((ar dp un gd frs).deeper (env24 L)) (env24 L) E),
   wpAny (model PySem.Challenge.rw_wr0050_01.prog w) ((ar dp un gd frs).deeper (env24 L)) (exec fs24c.1 (env24 L))
       (TurnW s g L (kstB U [(Str.ofString "gets", .ref gl), (Str.ofString "left", .ref ll), (Str.ofString "ring", .ref rl)]) [Str.ofString "k"]
         (fun m' nw' => ∃ gvs' ng' nl', StrsAre gvs' (ringG gs rv rv.length) ∧ (∀ p ∈ [(gl, W.listOf gvs'.toArray ng'), (ll, W.listOf (tkv kt (ringL lv rv rv.length)).toArray nl')], p ∈ nw'))) E s := by
  k_fill
  intro w rv lv gs gvs hlv hln hrn hrs hrl hll hgs hgl kt tb hk dp un gd frs base g mean mg mb B X T hd hu L ll rl gl hap nr nl ng s ht E U F N hE
  refine hideQ ?_
  intro Q0 hQ0
  have hvr : (tkv kt rv).length = rv.length := tkv_len _ _
  have hvz : (tkv kt rv).toArray.size = rv.length := by rw [List.size_toArray]; exact hvr
  obtain ⟨hp, gns, dr, tk0, os⟩ := s
  dsimp only at ht F N ⊢
  refine wpAny_For ?_
  refine wpAny_with_toks (n := tb) ht ?_
  k_with "pyIter ref" => refine hold ?_
  k_steps
  unfold Hold
  k_with_none
  rename Fr _ _ _ _ => F1
  rename News _ _ _ _ => N1
  rename IsRange _ _ _ _ _ _ _ _ => hrg
  rename tb ≤ _ => ht2
  dsimp only at hrg ht2 ⊢
  have hrm : ∀ z ∈ rv, z ∈ ltrs := fun z hz => hlv z (hrs z hz)
  refine for_range (σ := List Value × List Nat × Nat × Nat) tb [gl, ll, rl] (fun c => [(gl, W.listOf c.1.toArray c.2.2.1), (ll, W.listOf (tkv kt c.2.1).toArray c.2.2.2), (rl, W.listOf (tkv kt rv).toArray nr)]) (fun _ => []) [Str.ofString "k"]
    (fun i c => StrsAre c.1 (ringG gs rv i) ∧ c.2.1 = ringL lv rv i) (gvs, lv, ng, nl) (by rfl) hrg (by omega) ht2 F1 N1 (fun p hp => nomatch hp) ⟨hgs, rfl⟩ ?_ ?_ ?_ ?_ hE
  · exact fun c => all1 (.head _) (all1 (.tail _ (.head _)) (all1 (.tail _ (.tail _ (.head _))) all0))
  · refine all1 ?_ (all1 ?_ (all1 ?_ all0))
    · exact ⟨_, .head _⟩
    · exact ⟨_, .tail _ (.head _)⟩
    · exact ⟨_, .tail _ (.tail _ (.head _))⟩
  · rintro i t ⟨gvs1, lv1, ng1, nl1⟩ u h tk it io hi ⟨hg1, hl1⟩ htk hit F2 N2
    dsimp only at hg1 hl1 N2 ⊢
    subst hl1
    obtain ⟨hn1, hm1⟩ := ringL_is hln hrn hrs i (Nat.le_of_lt hi)
    have hy := ringL_mem hln hrn hrs i hi
    have hyv : rv[i]? = some (rv.getD i 0) := by rw [List.getD_eq_getElem?_getD, List.getElem?_eq_getElem hi]; rfl
    have hxv : (if i = 0 then rv[rv.length - 1]? else rv[i - 1]?) = some (prv rv i) := by
      unfold prv
      split
      · rw [List.getD_eq_getElem?_getD, List.getElem?_eq_getElem (by omega)]; rfl
      · rw [List.getD_eq_getElem?_getD, List.getElem?_eq_getElem (by omega)]; rfl
    have hlen1 : (ringL lv rv i).length ≤ 4 := Nat.le_trans (nodup_len hn1 fun x hx => ((hm1 x).mp hx).1) hll
    have F3 := kst_self2 (ps := [(Str.ofString "gets", .ref gl), (Str.ofString "left", .ref ll), (Str.ofString "ring", .ref rl)]) (by kst_all) F2
    refine wpAny_mono (ring_turn w rv (ringL lv rv i) (ringG gs rv i) gvs1 i (prv rv i) (rv.getD i 0) hyv hxv hrm (fun z hz => hlv z ((hm1 z).mp hz).1) hy hrl hlen1 hg1 (by rw [ringG_len]; exact hgl) kt tb hk t dp un gd frs base g mean mg mb B X T hd hu L ll rl gl hap nr nl1 ng1 it io (by simpa using hit) _ htk E _ F3 N2) (fun _ s₂ p => wpAny_mono p (fun f s₃ q => ?_) fun _ _ x => x) fun _ _ x => x
    obtain ⟨h3, k3, m3, nw3, rfl, rfl, F4, N4, hs4, gvs2, ng2, nl2, hg2, hsub⟩ := q
    show ForEnd _ _ _ _ _ _ _ _ _ _
    refine for_end (gvs2, _, ng2, nl2) F4 N4 hsub (fun p hp => nomatch hp) ?_ ⟨hg2, rfl⟩
    intro z _ h6
    refine (hs4 z h6).trans ((kstB_self (by kst_all)).trans ?_)
    show (if _ then _ else _) = _
    rw [h6]; rfl
  · rintro ⟨gvs1, lv1, ng1, nl1⟩ u h tk ⟨hg1, hl1⟩ htk F2 N2
    dsimp only at hg1 hl1 F2 N2 ⊢
    subst hl1
    refine wpAny_execs_nil (hQ0 _ _ ⟨h, tk, _, _, rfl, rfl, F2, N2, ?_, gvs1, ng1, nl1, hg1, ?_⟩)
    · intro z h3
      show (if _ then _ else _) = _
      rw [h3]; rfl
    · intro p hp
      rcases List.mem_cons.mp hp with rfl | hp
      · exact .head _
      · rw [List.mem_singleton.mp hp]; exact .tail _ (.head _)
end Wr50
end
section
set_option maxRecDepth 100000
set_option maxHeartbeats 4000000
namespace Wr50
open PySem PySem.W PySem.Calls PyProof.Rows
theorem round_turn : ∀ (w : World) (os : List (List Nat)) (_ : os.length = 4) (_ : ∀ o ∈ os, o ∈ perms4) (b0 : Nat) (r : List Nat) (_ : ∀ x ∈ b0 :: r, x ∈ ltrs) (_ : (b0 :: r).length ≤ 4) (_ : (b0 :: r).Nodup) (gs : List PySem.Str) (gvs : List Value) (_ : StrsAre gvs gs) (_ : gs.length = 4) (kt : Nat → Tok) (tb : Nat) (_ : TokOk kt tb) (dp un : Nat) (gd : Option (List Code)) (frs : List Env) (base g : Heap) (mean : ExcName → Option Value) (mg mb : PySem.Str → Option Value)
   (_ : Below (ar dp un gd frs) base frs g) (_ : (KF w.params).In g) (_ : Top qv lo mean mg mb g) (_ : dp + 3 < recursionLimit) (_ : un + 20 < cLine)
   (L oa ll gl : Addr) (_ : gl ≠ ll) (nl ng : Nat) (_ : IsStrs g oa (os.map stL)) (s : Shared) (_ : tb ≤ s.toks) (E : Value → Shared → Prop) (U : PySem.Str → Option Value)
   (_ : Fr g L s.heap (kstB U [(Str.ofString "orders", .ref oa), (Str.ofString "left", .ref ll), (Str.ofString "gets", .ref gl)])) (_ : News g L s.heap [(gl, W.listOf gvs.toArray ng), (ll, W.listOf (tkv kt (b0 :: r)).toArray nl)])
   (_ : PassesOwn (model PySem.Challenge.rw_wr0050_01.prog w) ((ar dp un gd frs).deeper (env24 L)) (env24 L) E),
   wpAny (model PySem.Challenge.rw_wr0050_01.prog w) ((ar dp un gd frs).deeper (env24 L)) (execs wb24.1 (env24 L))
       (TurnW s g L (kstB U [(Str.ofString "orders", .ref oa), (Str.ofString "left", .ref ll), (Str.ofString "gets", .ref gl)]) [Str.ofString "path", Str.ofString "best", Str.ofString "order", Str.ofString "one", Str.ofString "ring", Str.ofString "k"]
         (fun m' nw' => ∃ rv gvs' ng' nl', Ring os (b0 :: r) rv ∧ StrsAre gvs' (ringG gs rv rv.length) ∧ (∀ p ∈ [(gl, W.listOf gvs'.toArray ng'), (ll, W.listOf (tkv kt (ringL (b0 :: r) rv rv.length)).toArray nl')], p ∈ nw'))) E s := by
  k_fill
  intro w os hol hos b0 r hr hrl hnd gs gvs hgs hgl kt tb hk dp un gd frs base g mean mg mb B X T hd hu L oa ll gl hap nl ng hoa s ht E U F N hE
  refine hideQ ?_
  intro Q0 hQ0
  have hvl : (tkv kt (b0 :: r)).length ≤ 5 := by rw [tkv_len]; omega
  have hvz : (tkv kt (b0 :: r)).toArray.size ≤ 5 := by rw [List.size_toArray]; exact hvl
  obtain ⟨hp, gns, dr, tk0, os'⟩ := s
  dsimp only at ht F N ⊢
  k_with "execs cons" => ((with_reducible refine wpAny_execs_cons ?_); try dsimp only)
  k_with "exec While Compare cons nil" => refine hold ?_
  k_steps
  unfold Hold
  k_with_none
  rename Fr _ _ _ _ => F1
  rename News _ _ _ _ => N1
  rename (gl < _ ∧ ll < _) => hlt
  rename Addr => pl
  have F2 := kst_self2 (ps := [(Str.ofString "best", .str (Str.ofString "") (tk0 + 1 + 1)), (Str.ofString "orders", .ref oa), (Str.ofString "left", .ref ll), (Str.ofString "path", .ref pl)]) (by kst_all) F1
  have ht2 : tb ≤ tk0 + 1 + 1 + 1 + 1 := Nat.le_trans ht (Nat.le_add_right _ 4)
  refine wpAny_with_toks (n := tb) ht2 ?_
  refine wpAny_mono (path_loop w os hol hos b0 r hr hrl kt tb hk _ dp un gd frs base g mean mg mb B X T hd hu L oa ll _ gl ⟨Nat.ne_of_lt hlt.1, Nat.ne_of_lt hlt.2⟩ _ nl _ hoa _ ht2 E _ F2 N1 hE) (fun fl s' q => ?_) fun _ _ x _ => x
  obtain ⟨h3, k3, m3, nw3, rfl, rfl, F5, N5, hs5, pv, b, np', hpath, hclo, hsub, hb5⟩ := q
  intro ht3
  have N6 := newsSub N5 hsub
  dsimp only at ht3 ⊢
  have F6 := kst_self2 (ps := [(Str.ofString "best", .str (st1 b) (kt b)), (Str.ofString "path", .ref pl), (Str.ofString "left", .ref ll), (Str.ofString "gets", .ref gl)]) (by
    refine List.forall_mem_cons.mpr ⟨hb5, List.forall_mem_cons.mpr ⟨?_, List.forall_mem_cons.mpr ⟨?_, List.forall_mem_cons.mpr ⟨?_, List.forall_mem_nil _⟩⟩⟩⟩
    · exact (hs5 (Str.ofString "path") (by decide)).trans (by rfl)
    · exact (hs5 (Str.ofString "left") (by decide)).trans (by rfl)
    · exact (hs5 (Str.ofString "gets") (by decide)).trans (by rfl)) F5
  have same6 : ∀ z, [Str.ofString "path", Str.ofString "best", Str.ofString "order", Str.ofString "one", Str.ofString "ring", Str.ofString "k"].contains z = false → kstB m3 [(Str.ofString "best", .str (st1 b) (kt b)), (Str.ofString "path", .ref pl), (Str.ofString "left", .ref ll), (Str.ofString "gets", .ref gl)] z = kstB U [(Str.ofString "orders", .ref oa), (Str.ofString "left", .ref ll), (Str.ofString "gets", .ref gl)] z := by
    intro z hz
    have hz1 : z ≠ Str.ofString "path" := fun e => by rw [e] at hz; exact absurd hz (by decide)
    have hz2 : z ≠ Str.ofString "best" := fun e => by rw [e] at hz; exact absurd hz (by decide)
    have hz3 : z ≠ Str.ofString "order" := fun e => by rw [e] at hz; exact absurd hz (by decide)
    have hz4 : z ≠ Str.ofString "one" := fun e => by rw [e] at hz; exact absurd hz (by decide)
    have e1 := (hs5 z (by simp [hz2, hz3, hz4])).trans (kstB_self (by kst_all))
    by_cases hp : z = Str.ofString "left"
    · subst hp; rfl
    · by_cases hq : z = Str.ofString "gets"
      · subst hq; rfl
      · show kstB m3 _ z = _
        simp only [kstB, hz1, hz2, hp, hq, if_false]
        rw [e1]
        simp only [kstB, hz1, hz2, hp, hq, if_false]
  have hsubl : ∀ x ∈ pv, x ∈ ltrs := fun x hx => hr x (hpath.2.1 x hx)
  have hpl := nodup_len hpath.1 hpath.2.1
  have hpl4 : pv.length ≤ 4 := Nat.le_trans hpl hrl
  have hvp : (tkv kt pv).length ≤ 4 := by rw [tkv_len]; exact hpl4
  have hvq : (tkv kt pv).toArray.size ≤ 4 := by rw [List.size_toArray]; exact hvp
  have hix := List.idxOf_lt_length_of_mem hclo.1
  clear F1 N1 F2 F5 N5 hsub hs5
  k_with "execs cons" => ((with_reducible refine wpAny_execs_cons ?_); try dsimp only)
  k_with "call ref" => refine hold ?_
  k_with "exec For Name Call cons nil" => refine hold ?_
  k_steps
  unfold Hold
  rename Fr _ _ _ _ => F7
  rename News _ _ _ _ => N7
  refine useT (ps_idxL w _ pv b kt tb hk hsubl hpl4 hclo.1).toT B F7 N7 X T rfl rfl (room1 hd (by decide)) (room3 hu (by decide)) (News.isList N7 (.head _)) ?_
  rintro _ h8 tk8 F8 N8 _ ⟨t8, rfl⟩ ht8
  have hz8 : gl < h8.objs.size ∧ ll < h8.objs.size := ⟨Heap.lt_size (N8 _ (.tail _ (.head _))).1, Heap.lt_size (N8 _ (.tail _ (.tail _ (.head _)))).1⟩
  clear F7 N7
  dsimp only at ht8 ⊢
  k_steps
  unfold Hold
  k_with_none
  rename Fr _ _ _ _ => F9
  rename News _ _ _ _ => N9
  rw [pick_from] at N9
  rw [show (tkv kt pv).drop (pv.idxOf b) = tkv kt (pv.drop (pv.idxOf b)) from (List.map_drop ..).symm] at N9
  generalize hrl9 : h8.objs.size + 1 = rl at F9 N9
  have hrg := ring_of hpath hclo
  generalize hrv : pv.drop (pv.idxOf b) = rv at N9 hrg
  have ht9 : tb ≤ tk8 + 1 := Nat.le_trans ht3 (Nat.le_trans ht8 (Nat.le_succ _))
  have hrl4 : rv.length ≤ 4 := Nat.le_trans (nodup_len hrg.2.1 hrg.2.2.1) hrl
  have F10 := kst_self2 (ps := [(Str.ofString "gets", .ref gl), (Str.ofString "left", .ref ll), (Str.ofString "ring", .ref rl)]) (by kst_all) F9
  refine wpAny_mono (ring_loop w rv (b0 :: r) gs gvs hr hnd hrg.2.1 hrg.2.2.1 hrl4 hrl hgs hgl kt tb hk dp un gd frs base g mean mg mb B X T hd hu L ll rl gl ⟨?_, ?_, hap⟩ 0 nl ng _ ht9 E _ F10 (newsSub N9 ?_) hE) (fun fl s' q => ?_) fun _ _ x => x
  · subst hrl9; exact Nat.ne_of_lt (Nat.lt_succ_of_lt hz8.1)
  · subst hrl9; exact Nat.ne_of_lt (Nat.lt_succ_of_lt hz8.2)
  · intro p hp
    rcases List.mem_cons.mp hp with rfl | hp
    · exact .tail _ (.tail _ (.head _))
    · rcases List.mem_cons.mp hp with rfl | hp
      · exact .tail _ (.tail _ (.tail _ (.head _)))
      · rw [List.mem_singleton.mp hp]; exact .head _
  obtain ⟨h11, k11, m11, nw11, rfl, rfl, F11, N11, hs11, gvs', ng', nl', hg11, hsub11⟩ := q
  refine wpAny_execs_nil (hQ0 _ _ ⟨_, _, _, _, rfl, rfl, F11, N11, ?_, rv, gvs', ng', nl', hrg, hg11, hsub11⟩)
  intro z hz
  have hz6 : z ≠ Str.ofString "k" := fun e => by rw [e] at hz; exact absurd hz (by decide)
  have hz5 : z ≠ Str.ofString "ring" := fun e => by rw [e] at hz; exact absurd hz (by decide)
  refine (hs11 z (by simp [hz6])).trans ((kstB_self (by kst_all)).trans ?_)
  simp only [hz5, if_false]
  exact same6 z hz
end Wr50
end
section
set_option maxRecDepth 100000
set_option maxHeartbeats 4000000
namespace Wr50
open PySem PySem.W PySem.Calls PyProof.Rows
/-! the rounds: what is known when lv is left -/
structure Part (os : List (List Nat)) (lv : List Nat) (gs : List PySem.Str) (σ ρ : Nat → Nat) (r : Nat) : Prop where
  gets : gs = ltrs.map fun c => if c ∈ lv then Str.ofString "" else st1 (σ c)
  mem : ∀ c ∈ ltrs, c ∉ lv → σ c ∈ ltrs ∧ σ c ∉ lv
  same : ∀ c ∈ ltrs, c ∉ lv → ρ (σ c) = ρ c ∧ ρ c < r
  best : ∀ c ∈ ltrs, c ∉ lv → ∀ d ∈ ltrs, bef (oo os c) d (σ c) = true → d ∉ lv ∧ ρ d < ρ c
  inj : ∀ c ∈ ltrs, c ∉ lv → ∀ d ∈ ltrs, d ∉ lv → σ c = σ d → c = d
theorem part_start (os : List (List Nat)) : Part os ltrs [Str.ofString "", Str.ofString "", Str.ofString "", Str.ofString ""] id (fun _ => 0) 0 :=
  ⟨rfl, fun c h n => absurd h n, fun c h n => absurd h n, fun c h n => absurd h n, fun c h n => absurd h n⟩
theorem four_is {α : Type} (dflt : α) (F : Nat → α) {l : List α} (hl : l.length = 4) (h : ∀ c ∈ ltrs, l.getD (ltrs.idxOf c) dflt = F c) : l = ltrs.map F := by
  match l, hl with
  | [a, b, c, d], _ =>
    have h1 := h 102 (by decide)
    have h2 := h 105 (by decide)
    have h3 := h 115 (by decide)
    have h4 := h 116 (by decide)
    rw [show ltrs.idxOf 102 = 0 by decide] at h1
    rw [show ltrs.idxOf 105 = 1 by decide] at h2
    rw [show ltrs.idxOf 115 = 2 by decide] at h3
    rw [show ltrs.idxOf 116 = 3 by decide] at h4
    simp only [List.getD_cons_zero, List.getD_cons_succ] at h1 h2 h3 h4
    rw [h1, h2, h3, h4]; rfl
theorem four_at {α : Type} (dflt : α) (F : Nat → α) : ∀ c ∈ ltrs, (ltrs.map F).getD (ltrs.idxOf c) dflt = F c := by
  intro c hc
  have h := idxF c hc
  have e : ltrs[ltrs.idxOf c]'(h) = c := List.getElem_idxOf h
  rw [List.getD_eq_getElem?_getD, List.getElem?_map, List.getElem?_eq_getElem h, e]; rfl
theorem ltrs_inj {c d : Nat} (hc : c ∈ ltrs) (hd : d ∈ ltrs) (e : ltrs.idxOf c = ltrs.idxOf d) : c = d := by
  have h1 : ltrs[ltrs.idxOf c]'(idxF c hc) = c := List.getElem_idxOf _
  have h2 : ltrs[ltrs.idxOf d]'(idxF d hd) = d := List.getElem_idxOf _
  rw [← h1, ← h2]; simp only [e]
/-- the place on the ring behind c -/
noncomputable def nxk (rv : List Nat) (c : Nat) : Nat := if rv.idxOf c + 1 = rv.length then 0 else rv.idxOf c + 1
theorem getD_at {l : List Nat} {i : Nat} (h : i < l.length) : l.getD i 0 = l[i] := by rw [List.getD_eq_getElem?_getD, List.getElem?_eq_getElem h]; rfl
theorem nxk_lt {rv : List Nat} {c : Nat} (h : c ∈ rv) : nxk rv c < rv.length := by
  have := List.idxOf_lt_length_of_mem h
  unfold nxk; split <;> omega
theorem prv_nxk {rv : List Nat} {c : Nat} (h : c ∈ rv) : prv rv (nxk rv c) = c := by
  have hi := List.idxOf_lt_length_of_mem h
  have e : rv[rv.idxOf c] = c := List.getElem_idxOf hi
  unfold prv nxk
  by_cases h1 : rv.idxOf c + 1 = rv.length
  · rw [if_pos h1, if_pos rfl, getD_at (by omega)]
    have : rv.length - 1 = rv.idxOf c := by omega
    simp only [this, e]
  · rw [if_neg h1, if_neg (by omega), Nat.add_sub_cancel, getD_at hi, e]
theorem prv_mem {rv : List Nat} {k : Nat} (h : k < rv.length) : prv rv k ∈ rv := by
  unfold prv; split
  · rw [getD_at (by omega)]; exact List.getElem_mem _
  · rw [getD_at (by omega)]; exact List.getElem_mem _
theorem nxk_prv {rv : List Nat} (hn : rv.Nodup) {k : Nat} (h : k < rv.length) : nxk rv (prv rv k) = k := by
  unfold prv nxk
  by_cases h1 : k = 0
  · rw [if_pos h1, getD_at (by omega), hn.idxOf_getElem _ (by omega), if_pos (by omega)]; exact h1.symm
  · rw [if_neg h1, getD_at (by omega), hn.idxOf_getElem _ (by omega), if_neg (by omega)]; omega
theorem ringG_at {gs : List PySem.Str} {rv : List Nat} (hgl : gs.length = 4) (hn : rv.Nodup) (hs : ∀ x ∈ rv, x ∈ ltrs) (c : Nat) (hc : c ∈ ltrs) : ∀ i, i ≤ rv.length →
    (ringG gs rv i).getD (ltrs.idxOf c) (Str.ofString "") = if c ∈ rv ∧ nxk rv c < i then st1 (rv.getD (nxk rv c) 0) else gs.getD (ltrs.idxOf c) (Str.ofString "")
  | 0, _ => by rw [if_neg (by omega)]; rfl
  | i + 1, hi => by
    have ih := ringG_at hgl hn hs c hc i (by omega)
    have hp : prv rv i ∈ rv := prv_mem hi
    have hlt : ltrs.idxOf c < (ringG gs rv i).length := by rw [ringG_len, hgl]; exact idxF c hc
    rw [ringG, List.getD_eq_getElem?_getD, List.getElem?_set]
    by_cases e : c = prv rv i
    · have hk : nxk rv c = i := by rw [e]; exact nxk_prv hn hi
      rw [if_pos (by rw [e]), if_pos (by rw [← e]; exact hlt), if_pos ⟨by rw [e]; exact hp, by omega⟩, hk]; rfl
    · rw [if_neg (fun h => e (ltrs_inj hc (hs _ hp) h.symm)), ← List.getD_eq_getElem?_getD, ih]
      by_cases hcr : c ∈ rv
      · have hk : nxk rv c ≠ i := fun h => e (by rw [← prv_nxk hcr, h])
        by_cases h2 : nxk rv c < i
        · rw [if_pos ⟨hcr, h2⟩, if_pos ⟨hcr, by omega⟩]
        · rw [if_neg (fun h => h2 h.2), if_neg (fun h => by have := h.2; omega)]
      · rw [if_neg (fun h => hcr h.1), if_neg (fun h => hcr h.1)]
theorem part_step {os : List (List Nat)} {lv rv lv' : List Nat} {gs : List PySem.Str} {σ ρ : Nat → Nat} {r : Nat} (hsub : ∀ x ∈ lv, x ∈ ltrs) (hR : Ring os lv rv) (hm : ∀ x, x ∈ lv' ↔ x ∈ lv ∧ x ∉ rv) (hgl : gs.length = 4) (Pt : Part os lv gs σ ρ r)
    (htop : ∀ c ∈ ltrs, ∀ b, IsTop (oo os c) lv b → ∀ d ∈ ltrs, bef (oo os c) d b = true → d ∉ lv) :
    Part os lv' (ringG gs rv rv.length) (fun c => if c ∈ rv then rv.getD (nxk rv c) 0 else σ c) (fun c => if c ∈ rv then r else ρ c) (r + 1) := by
  obtain ⟨hne, hrn, hrs, hrt⟩ := hR
  have hrl : ∀ x ∈ rv, x ∈ ltrs := fun x hx => hsub x (hrs x hx)
  have nx : ∀ c, c ∈ rv → rv.getD (nxk rv c) 0 ∈ rv := fun c hc => by rw [getD_at (nxk_lt hc)]; exact List.getElem_mem _
  have done : ∀ c, c ∉ lv' → c ∉ rv → c ∉ lv := fun c h1 h2 h3 => h1 ((hm c).mpr ⟨h3, h2⟩)
  have offl : ∀ c, c ∉ lv → c ∉ rv := fun c h h2 => h (hrs c h2)
  have offl' : ∀ c, c ∉ lv → c ∉ lv' := fun c h h2 => h ((hm c).mp h2).1
  have offr : ∀ c, c ∈ rv → c ∉ lv' := fun c h h2 => ((hm c).mp h2).2 h
  refine ⟨?_, ?_, ?_, ?_, ?_⟩
  · refine four_is (Str.ofString "") _ (by rw [ringG_len]; exact hgl) fun c hc => ?_
    rw [ringG_at hgl hrn hrl c hc rv.length (Nat.le_refl _)]
    by_cases h : c ∈ rv
    · rw [if_pos ⟨h, nxk_lt h⟩, if_neg (offr c h), if_pos h]
    · rw [if_neg (fun q => h q.1), Pt.gets, four_at _ _ c hc, if_neg h]
      by_cases h2 : c ∈ lv
      · rw [if_pos h2, if_pos ((hm c).mpr ⟨h2, h⟩)]
      · rw [if_neg h2, if_neg (offl' c h2)]
  · intro c hc hn
    by_cases h : c ∈ rv
    · rw [if_pos h]; exact ⟨hrl _ (nx c h), offr _ (nx c h)⟩
    · rw [if_neg h]
      obtain ⟨h1, h2⟩ := Pt.mem c hc (done c hn h)
      exact ⟨h1, offl' _ h2⟩
  · intro c hc hn
    by_cases h : c ∈ rv
    · rw [if_pos h, if_pos h, if_pos (nx c h)]; exact ⟨rfl, Nat.lt_succ_self _⟩
    · have hl := done c hn h
      rw [if_neg h, if_neg h, if_neg (offl _ (Pt.mem c hc hl).2)]
      have := Pt.same c hc hl
      exact ⟨this.1, Nat.lt_succ_of_lt this.2⟩
  · intro c hc hn d hd hb
    by_cases h : c ∈ rv
    · rw [if_pos h] at hb ⊢
      have ht := hrt (nxk rv c) (nxk_lt h)
      rw [prv_nxk h] at ht
      have hdl := htop c hc _ ht d hd hb
      rw [if_neg (offl d hdl)]
      exact ⟨offl' d hdl, (Pt.same d hd hdl).2⟩
    · rw [if_neg h] at hb ⊢
      have hl := done c hn h
      obtain ⟨h1, h2⟩ := Pt.best c hc hl d hd hb
      rw [if_neg (offl d h1)]
      exact ⟨offl' d h1, h2⟩
  · intro c hc hn d hd hn2 e
    by_cases h : c ∈ rv
    · by_cases h2 : d ∈ rv
      · rw [if_pos h, if_pos h2, getD_at (nxk_lt h), getD_at (nxk_lt h2)] at e
        have := nodup_idx hrn (nxk_lt h2) (nxk_lt h) e
        rw [← prv_nxk h, ← prv_nxk h2, this]
      · rw [if_pos h, if_neg h2] at e
        exact absurd (e ▸ nx c h) (offl _ (Pt.mem d hd (done d hn2 h2)).2)
    · by_cases h2 : d ∈ rv
      · rw [if_neg h, if_pos h2] at e
        exact absurd (e ▸ nx d h2) (offl _ (Pt.mem c hc (done c hn h)).2)
      · rw [if_neg h, if_neg h2] at e
        exact Pt.inj c hc (done c hn h) d hd (done d hn2 h2) e
end Wr50
end
section
set_option maxRecDepth 100000
set_option maxHeartbeats 4000000
namespace Wr50
open PySem PySem.W PySem.Calls PyProof.Rows
theorem ps_traded (w : World) (os : List (List Nat)) (hol : os.length = 4) (hos : ∀ o ∈ os, o ∈ perms4) (oa : Addr) : PS w 199 [.ref oa] 4 100 (fun s => 0 < s.toks ∧ IsStrs s.heap oa (os.map stL))
    (fun v h h' => ∃ ga gvs n gs σ ρ r, v = .ref ga ∧ h.get? ga = none ∧ h'.get? ga = some (W.listOf gvs.toArray n) ∧ StrsAre gvs gs ∧ Part os [] gs σ ρ r) := by
  unfold PS; k_fill
  intro dp un gd frs base mean mg mb s Q E B X T hd hu hpre hret
  refine wpAny_call ?_
  refine' enter_def (binds := [("orders", .ref oa)]) X T ?k6 ?k7 ?k8 ?k9 ?kB ?_ ?c2 ?c3 ?c4 ?c5
  case k6 => k_is
  case k7 => k_is
  case k8 => ktr_room
  case k9 => exact BindsTo.of_eq rfl
  case c5 => decide
  case kB => exact locs rfl
  case c2 => exact rfl
  case c3 => exact rfl
  case c4 => exact rfl
  intro L' h' F' N'
  have htk : 0 < s.toks + [((Str.ofString "orders" : PySem.Str), Value.ref oa)].length := Nat.lt_of_lt_of_le hpre.1 (Nat.le_add_right _ _)
  try k_fold
  generalize s.toks + List.length _ = tk0 at htk ⊢
  k_with "execs cons" => ((with_reducible refine wpAny_execs_cons ?_); try dsimp only)
  k_with "exec While Compare cons nil" => refine hold ?_
  k_steps
  unfold Hold
  k_with_none
  rename Fr _ _ _ _ => F1
  rename News _ _ _ _ => N1
  rename (_ < _) => hlt
  rename Addr => gl
  rename_i ll _ _ _ _ _
  obtain ⟨gvs, hgvs, hgs⟩ : ∃ gvs : List Value, #[Value.str (Str.ofString "") (tk0 + 1 + 1 + 1 + 1 + 1), Value.str (Str.ofString "") (tk0 + 1 + 1 + 1 + 1 + 1 + 1), Value.str (Str.ofString "") (tk0 + 1 + 1 + 1 + 1 + 1 + 1 + 1), Value.str (Str.ofString "") (tk0 + 1 + 1 + 1 + 1 + 1 + 1 + 1 + 1)] = gvs.toArray ∧ StrsAre gvs [Str.ofString "", Str.ofString "", Str.ofString "", Str.ofString ""] :=
    ⟨_, rfl, .cons _ _ (.cons _ _ (.cons _ _ (.cons _ _ .nil)))⟩
  rw [hgvs] at N1
  obtain ⟨kt, hkt⟩ : ∃ kt : Nat → Tok, kt = fun c => tk0 + ltrs.idxOf c := ⟨_, rfl⟩
  have hl0 : #[Value.str (Str.ofString "f") tk0, Value.str (Str.ofString "i") (tk0 + 1), Value.str (Str.ofString "s") (tk0 + 1 + 1), Value.str (Str.ofString "t") (tk0 + 1 + 1 + 1)] = (tkv kt ltrs).toArray := by subst hkt; rfl
  rw [hl0] at N1
  have hk : TokOk kt (tk0 + 4) := by
    subst hkt
    refine ⟨fun c _ => Nat.lt_of_lt_of_le htk (Nat.le_add_right _ _), fun c hc => Nat.add_lt_add_left (idxF c hc) _, fun c hc d hd hn e => hn (ltrs_inj hc hd (Nat.add_left_cancel e))⟩
  clear hl0 hgvs hkt
  have hap : gl ≠ ll := Nat.ne_of_gt hlt
  obtain ⟨vs, hv, hS⟩ := hpre.2
  refine while_T (σ := List Nat × List PySem.Str × List Value × (Nat → Nat) × (Nat → Nat) × Nat × Nat × Nat) (tk0 + 4) (fun c => [(gl, W.listOf c.2.2.1.toArray c.2.2.2.2.2.2.1), (ll, W.listOf (tkv kt c.1).toArray c.2.2.2.2.2.2.2)]) (fun _ => []) [Str.ofString "path", Str.ofString "best", Str.ofString "order", Str.ofString "one", Str.ofString "ring", Str.ofString "k"]
    (fun c => c.1.Nodup ∧ (∀ x ∈ c.1, x ∈ ltrs) ∧ c.2.1.length = 4 ∧ StrsAre c.2.2.1 c.2.1 ∧ Part os c.1 c.2.1 c.2.2.2.1 c.2.2.2.2.1 c.2.2.2.2.2.1) (fun c => c.1.length) (ltrs, _, gvs, id, fun _ => 0, 0, 0, 0) (by dsimp only; omega) F1 N1 (fun p hp => nomatch hp)
    ⟨(show ltrs.Nodup by decide), fun x hx => hx, rfl, hgs, part_start os⟩ ?_
  rintro ⟨lv, gs1, gvs1, σ, ρ, r, ng, nl⟩ u h1 tk1 ⟨hnd, hsub, hgl, hgs1, hpt⟩ htk1 F2 N2
  dsimp only at hnd hsub hgl hgs1 hpt F2 N2 ⊢
  have F3 := kst_self2 (ps := [(Str.ofString "orders", .ref oa), (Str.ofString "left", .ref ll), (Str.ofString "gets", .ref gl)]) (by kst_all) F2
  have hl4 := nodup_len hnd hsub
  have hvl : (tkv kt lv).length ≤ 4 := by rw [tkv_len]; exact hl4
  have hvz : (tkv kt lv).toArray.size ≤ 4 := by rw [List.size_toArray]; exact hvl
  clear F2
  have hoks : Oks (lv.map st1) := by
    intro x hx
    obtain ⟨c, hc, rfl⟩ := List.mem_map.mp hx
    exact (show ∀ c ∈ ltrs, PyData.strOk (st1 c) = true by decide +kernel) c (hsub c hc)
  k_with "compareOp NotEq ref ref" => refine hold ?_
  k_steps
  unfold Hold
  k_with_none
  rename Fr _ _ _ _ => F4
  rename News _ _ _ _ => N4
  refine strs_ne (News.isList N4 (.tail _ (.tail _ (.head _)))) (ys := []) (News.isList N4 (.head _)) (tkv_strs kt lv) .nil hoks (fun x hx => nomatch hx) (by rw [units_deeper]; show un + 3 + 64 < cLine; exact room3 hu (by decide)) ?_
  cases lv with
  | nil =>
    k_steps
    rename News _ _ _ _ => N5
    have z := N5 (gl, W.listOf gvs1.toArray ng) (by first | exact .head _ | exact .tail _ (.head _))
    show Q _ _
    exact hret _ _ _ (Fr.keep (by assumption)) ⟨gl, gvs1, ng, gs1, σ, ρ, r, rfl, z.2.2, z.1, hgs1, hpt⟩
  | cons b0 q =>
    rw [show decide ((b0 :: q).map st1 = []) = false from decide_eq_false (by simp)]
    k_with "execs cons" => refine hold ?_
    k_steps
    unfold Hold
    k_with_none
    rename Fr _ _ _ _ => F5
    rename News _ _ _ _ => N5
    dsimp only
    have N6 := newsSub (nw := [(gl, W.listOf gvs1.toArray ng), (ll, W.listOf (tkv kt (b0 :: q)).toArray nl)]) N5 (by kst_in)
    show wpAny _ _ (execs wb24.1 (env24 L')) _ _ _
    refine wpAny_mono (round_turn w os hol hos b0 q hsub hl4 hnd gs1 gvs1 hgs1 hgl kt (tk0 + 4) hk dp un gd frs base s.heap mean mg mb B X T (by omega) (by omega) L' oa ll gl hap nl ng ⟨vs, hv, hS⟩ ⟨_, s.gens, s.drawn, tk1, s.os⟩ ?htb _ _ F5 N6 ?hps) (fun fl s' z => ?_) fun _ _ x => x
    case hps => passes_own
    case htb => dsimp only; omega
    obtain ⟨h7, k7, m7, nw7, rfl, rfl, F7, N7, hs7, rv, gvs', ng', nl', hring, hgs7, hsub7⟩ := z
    obtain ⟨hn8, hm8⟩ := ringL_is hnd hring.2.1 hring.2.2.1 rv.length (Nat.le_refl _)
    rw [List.take_length] at hm8
    have hlen8 : (ringL (b0 :: q) rv rv.length).length < (b0 :: q).length := by
      have h0 : 0 < rv.length := List.length_pos_iff.mpr hring.1
      have hx : rv[0] ∈ rv := List.getElem_mem h0
      have := nodup_len (l := rv[0] :: ringL (b0 :: q) rv rv.length) (lv := b0 :: q) (List.nodup_cons.mpr ⟨fun h => ((hm8 _).mp h).2 hx, hn8⟩) (fun y hy => by
        rcases List.mem_cons.mp hy with rfl | hy
        · exact hring.2.2.1 _ hx
        · exact ((hm8 y).mp hy).1)
      exact this
    have hpt8 := part_step hsub hring hm8 hgl hpt (fun c hc b hb d hd hbd hdl => by
      have := hb.2 d hdl
      by_cases e : d = b
      · rw [e] at hbd; simp [bef] at hbd
      · have h9 := this e
        simp only [bef, decide_eq_true_eq] at h9 hbd
        omega)
    show ForEnd _ _ _ _ _ _ _ _ _ _
    refine for_end (its := []) (ringL (b0 :: q) rv rv.length, ringG gs1 rv rv.length, gvs', _, _, _, ng', nl') F7 N7 hsub7 (fun p hp => nomatch hp) ?_ ⟨⟨hn8, fun x hx => hsub x ((hm8 x).mp hx).1, by rw [ringG_len]; exact hgl, hgs7, hpt8⟩, hlen8⟩
    intro z _ hz
    refine (hs7 z hz).trans ((kstB_self (by kst_all)).trans ?_)
    show (if _ then _ else _) = _
    rw [hz]; rfl
end Wr50
end
section
set_option maxRecDepth 100000
set_option maxHeartbeats 4000000
namespace Wr50
open PySem PySem.W PySem.Calls PyProof.Rows
section
variable {prog : Program} {w : World} {A : Around} {s : Shared} {base : Heap} {frs : List Env} {K : Frag} {mean : ExcName → Option Value} {mg mb : PySem.Str → Option Value} {p : Program} {loose : List PySem.Str}
  {R : Result → Shared → Prop} {name qual : PySem.Str} {params : Arguments} {body : List Stmt} {scope : Scope} {dV kV doc pm cdv ct oc : Value} {an od : Option Addr} {osl : Array (Option Value)} {f : Addr} {vals : List Value} {binds : List (PySem.Str × Value)}
theorem enter_defC (X : K.In s.heap) (T : Top p loose mean mg mb s.heap)
    (ho : K.lookup f = some ⟨oc, od, .func (fnOf name qual params body scope dV kV doc pm an cdv ct), osl⟩) (hcd : codeIn K cdv qual = true) (hroom : A.depth < recursionLimit)
    (hbind : bindArgs (fnOf name qual params body scope dV kV doc pm an cdv ct) ⟨vals, []⟩ = pure binds)
    (hkind : (binds.all fun y => scope.names.lookup y.1 == some .local || scope.names.lookup y.1 == some .cell) = true) (hnd : ((cellsFrom 0 scope.names []).map (·.1)).Nodup)
    (h : ∀ L' h₁ tk cells, Fr s.heap L' h₁ (bindL (envOfC qual scope L' f cdv).kindOf binds fun _ => none) → News s.heap L' h₁ cells →
      CellsAre (bindC (envOfC qual scope L' f cdv).kindOf binds fun _ => none) (cellsFrom (L' + 1) scope.names []) cells →
      wpAny (model prog w) (A.deeper (envOfC qual scope L' f cdv)) (execs body (envOfC qual scope L' f cdv))
        (fun fl s' => R (.ok (.ret (match fl with | .ret v => v | _ => .none))) s')
        (fun e s' => wpAny (model prog w) (A.deeper (envOfC qual scope L' f cdv)) (leaving (envOfC qual scope L' f cdv) e) (fun _ s'' => R (.error e) s'') (fun e' s'' => R (.error e') s'') s')
        { s with heap := h₁, toks := tk })
    (hco : scope.isCoroutine = false) (hgen : scope.isGenerator = false) (hk : scope.kind = .function) : codeAny (model prog w) A (.call (.ref f) ⟨vals, []⟩) R s := by
  refine codeAny_call_cells (fd := fnOf name qual params body scope dV kV doc pm an cdv ct) (body := body) (binds := binds) hroom (X _ _ ho) rfl T.nolimit (codeRec_of X hcd) rfl hbind rfl (kindsX hkind _) (fun s₁ x => ?_) hco hgen hk
  obtain ⟨h₁, tk, rfl, hk₁⟩ := x.done
  obtain ⟨cells, NC, Y⟩ := Cl.news (h₀ := s.heap) (Nat.le_refl _) fun n c hm => ⟨x.cell n c (lookup_of_mem_nodup (cellsFrom_names scope.names 0 (s.heap.objs.size + 1) [] [] rfl ▸ hnd) hm), x.above n c hm⟩
  exact h s.heap.objs.size h₁ tk cells ⟨x.toInCall.ns, hk₁, Nat.le_refl _⟩ NC Y
end
end Wr50
end
section
set_option maxRecDepth 100000
set_option maxHeartbeats 4000000
namespace Wr50
open PySem PySem.W PySem.Calls PyProof.Rows
@[reducible] noncomputable def fb25 : { l : List Stmt // l = forBody (b25.1.getD 0 st0) } := by
  apply cap
  conv => rhs; whnf
@[reducible] noncomputable def fb25b : { l : List Stmt // l = forBody (fb25.1.getD 0 st0) } := by
  apply cap
  conv => rhs; whnf
@[reducible] noncomputable def fb25c : { l : List Stmt // l = forBody (fb25b.1.getD 1 st0) } := by
  apply cap
  conv => rhs; whnf
@[reducible] noncomputable def fs25 : { l : Stmt // l = b25.1.getD 0 st0 } := by
  apply cap
  conv => rhs; whnf
@[reducible] noncomputable def fs25b : { l : Stmt // l = fb25.1.getD 0 st0 } := by
  apply cap
  conv => rhs; whnf
@[reducible] noncomputable def fs25c : { l : Stmt // l = fb25b.1.getD 1 st0 } := by
  apply cap
  conv => rhs; whnf
noncomputable abbrev env25 (L : Addr) : Env := envOfC (Str.ofString "_law_bettered") s25.val L 204 (Value.ref 203)
section
variable {prog : Program} {w : World} {A : Around} {h₀ : Heap} {L : Addr} {m : PySem.Str → Option Value} {env : Env} {ct elt : Expr} {x : PySem.Str} {scope : Scope} {cl : List (PySem.Str × Addr)} {s : Shared} {S : List (Addr × Obj) → Prop} {P : Nat → Value → Prop} {Fin : List Value → List (Addr × Obj) → Prop} {n : Nat} {news : List (Addr × Obj)}
open LCg LCt
/-- a turn of a comprehension whose ledger stays: what it leaves -/
noncomputable def CompTail (h₀ : Heap) (L : Addr) (m : PySem.Str → Option Value) (s : Shared) (all : List (Addr × Obj)) (R : Value → Prop) (y : Value) (s₂ : Shared) : Prop := ∃ h' tk, s₂ = { s with heap := h', toks := tk } ∧ Fr h₀ L h' m ∧ News h₀ L h' all ∧ R y
/-- a comprehension with a test, by what holds of the items laid down -/
theorem compT_inv (J : Nat → List Value → Prop) (hS : S news) (hfin : ∀ ys, J n ys → Fin ys news)
    (step : ∀ (i : Nat) (ys : List Value) (v : Value) (I : Addr) (oI : Obj) (C : Addr) (oC : Obj) (D : Addr) (m₂ : PySem.Str → Option Value) (h : Heap) (tk : Nat) (E' : Value → Shared → Prop), i < n → J i ys → P i v → NsObj oC m₂ → m₂ x = some v → Fr h₀ L h m → News h₀ L h ((I, oI) :: (C, oC) :: (D, lst ys) :: news) →
      wpAny (model prog w) A (isTrue ct (compEnvC scope cl C env) (eval ct (compEnvC scope cl C env))) (fun ok s' => if ok = true then
        wpAny (model prog w) A (eval elt (compEnvC scope cl C env)) (CompTail h₀ L m s ((I, oI) :: (C, oC) :: (D, lst ys) :: news) (fun y => J (i + 1) (ys ++ [y]))) E' s'
        else CompTail h₀ L m s ((I, oI) :: (C, oC) :: (D, lst ys) :: news) (fun _ => J (i + 1) ys) Value.none s') E' { s with heap := h, toks := tk }) :
    ∀ k i ys, i + k = n → J i ys → CompRestT prog w A h₀ L m env ct elt x scope cl s S P Fin k i ys news := by
  intro k
  induction k with
  | zero => intro i ys hi hJ; exact CompRestT.zero (hfin ys (by have : i = n := hi; rw [← this]; exact hJ))
  | succ k ih =>
    intro i ys hi hJ
    refine CompRestT.succ ?_
    intro v I oI C oC D m₂ h tk E' hv hC hx F N off ne
    refine wpAny_mono (step i ys v I oI C oC D m₂ h tk E' (by omega) hJ hv hC hx F N) (fun ok s' q => ?_) fun _ _ x => x
    cases ok with
    | true =>
      simp only [if_true] at q ⊢
      refine wpAny_mono q (fun y s₂ z => ?_) fun _ _ x => x
      obtain ⟨h', tk', rfl, F', N', hJ'⟩ := z
      exact ⟨h', tk', news, rfl, F', N', off, hS, ih (i + 1) _ (by omega) hJ'⟩
    | false =>
      simp only [Bool.false_eq_true, if_false] at q ⊢
      obtain ⟨h', tk', rfl, F', N', hJ'⟩ := q
      exact ⟨h', tk', news, rfl, F', N', off, hS, ih (i + 1) _ (by omega) hJ'⟩
end
theorem in_stL (al : List Nat) (c : Nat) : (!(Builtin.Str.occurrences (stL al) (st1 c) 0 (stL al).length 1).isEmpty) = al.contains c := by
  have hlen : (stL al).length = al.length := by show al.toArray.size = _; simp
  have hg : ∀ v, v < al.length → ((stL al).cps.getD v 0 = c ↔ al[v]? = some c) := by
    intro v hv
    show al.toArray.getD v 0 = c ↔ _
    rw [Array.getD_eq_getD_getElem?, List.getElem?_toArray, List.getElem?_eq_getElem hv]
    simp
  have hf : fromIndex (stL al).length (0 : Int) = 0 := by unfold fromIndex; simp
  have e : Txt.find3 (stL al) (st1 c) 0 = match Builtin.Str.occurrences (stL al) (st1 c) (fromIndex (stL al).length 0) (stL al).length 1 with | k :: _ => (k : Int) | [] => -1 := rfl
  rw [hf] at e
  rcases StrLaws.find3_spec (stL al) c 0 with ⟨h1, h2⟩ | ⟨k, h1, _, h3, h4, _⟩
  · rw [h1] at e
    have hno : al.contains c = false := by
      cases q : al.contains c with
      | false => rfl
      | true =>
        have hm := List.contains_iff_mem.mp q
        obtain ⟨v, hv, hvc⟩ := List.getElem_of_mem hm
        exact absurd ((hg v hv).mpr (by rw [List.getElem?_eq_getElem hv, hvc])) (h2 v (by rw [hf]; exact Nat.zero_le _) (by rw [hlen]; exact hv))
    rw [hno]
    cases q : Builtin.Str.occurrences (stL al) (st1 c) 0 (stL al).length 1 with
    | nil => rfl
    | cons k r => rw [q] at e; simp at e
  · rw [h1] at e
    have hyes : al.contains c = true := by
      rw [hlen] at h3
      exact List.contains_iff_mem.mpr (List.mem_of_getElem? ((hg k h3).mp h4))
    rw [hyes]
    cases q : Builtin.Str.occurrences (stL al) (st1 c) 0 (stL al).length 1 with
    | nil => rw [q] at e; simp at e
    | cons k r => rfl
/-- who is asked next -/
noncomputable def nextA (gl : List Nat) (ml : List (List Nat)) (al : List Nat) (i : Nat) : List (List Nat) := ((List.range i).filter fun c => al.contains (ltrs.getD c 0)).map fun c => gl.getD c 0 :: ml.getD c []
noncomputable def stepA (gl : List Nat) (ml : List (List Nat)) (al : List Nat) : List Nat := al ++ joinS [] (nextA gl ml al 4)
theorem nextA_succ (gl : List Nat) (ml : List (List Nat)) (al : List Nat) (i : Nat) : nextA gl ml al (i + 1) = nextA gl ml al i ++ (if al.contains (ltrs.getD i 0) = true then [gl.getD i 0 :: ml.getD i []] else []) := by
  unfold nextA
  rw [List.range_succ, List.filter_append, List.map_append]
  congr 1
  by_cases h : al.contains (ltrs.getD i 0) = true
  · rw [if_pos h]; simp only [List.filter_cons, h, if_true, List.filter_nil, List.map_cons, List.map_nil]
  · rw [if_neg h]; simp only [List.filter_cons, h, if_false, List.filter_nil, List.map_nil, Bool.false_eq_true]
theorem nextA_len (gl : List Nat) (ml : List (List Nat)) (al : List Nat) (i : Nat) : (nextA gl ml al i).length ≤ i := by
  unfold nextA
  rw [List.length_map]
  exact Nat.le_trans (List.length_filter_le _ _) (by rw [List.length_range]; exact Nat.le_refl _)
theorem nextA_five (gl : List Nat) (ml : List (List Nat)) (al : List Nat) (i : Nat) (h : ∀ p ∈ ml, p.length ≤ 4) : ∀ p ∈ nextA gl ml al i, p.length ≤ 5 := by
  intro p hp
  obtain ⟨c, _, rfl⟩ := List.mem_map.mp hp
  rw [List.length_cons]
  rcases Nat.lt_or_ge c ml.length with hc | hc
  · rw [List.getD_eq_getElem?_getD, List.getElem?_eq_getElem hc]
    exact Nat.succ_le_succ (h _ (List.getElem_mem _))
  · rw [List.getD_eq_getElem?_getD, List.getElem?_eq_none hc]; decide
theorem joinS_five : ∀ l : List (List Nat), (∀ p ∈ l, p.length ≤ 5) → (joinS [] l).length ≤ 5 * l.length
  | [], _ => Nat.zero_le _
  | [p], h => h p (.head _)
  | p :: q :: r, h => by
    have h1 := joinS_five (q :: r) fun x hx => h x (.tail _ hx)
    have h2 := h p (.head _)
    rw [joinS]
    simp only [List.length_append, List.length_cons, List.length_nil] at h1 ⊢
    omega
theorem sum_five : ∀ l : List (List Nat), (∀ p ∈ l, p.length ≤ 5) → ((l.map stL).map (·.length)).sum ≤ 5 * l.length
  | [], _ => Nat.zero_le _
  | p :: l, h => by
    have h1 := sum_five l fun q hq => h q (.tail _ hq)
    have h2 := h p (.head _)
    have e : (stL p).length = p.length := by show p.toArray.size = _; simp
    simp only [List.map_cons, List.sum_cons, List.length_cons, e]
    omega
theorem getD_st1 {gl : List Nat} {i : Nat} (h : i < gl.length) : (gl.map st1).getD i PySem.Str.empty = st1 (gl.getD i 0) := by
  rw [List.getD_eq_getElem?_getD, List.getD_eq_getElem?_getD, List.getElem?_map, List.getElem?_eq_getElem h]; rfl
theorem getD_stL {ml : List (List Nat)} {i : Nat} (h : i < ml.length) : (ml.map stL).getD i PySem.Str.empty = stL (ml.getD i []) := by
  rw [List.getD_eq_getElem?_getD, List.getD_eq_getElem?_getD, List.getElem?_map, List.getElem?_eq_getElem h]; rfl
theorem step_turn : ∀ (w : World) (gl : List Nat) (ml : List (List Nat)) (_ : gl.length = 4) (_ : ml.length = 4) (_ : ∀ p ∈ ml, p.length ≤ 4) (al : List Nat) (_ : al.length ≤ 100) (ta : Tok) (dp un : Nat) (gd : Option (List Code)) (frs : List Env) (base g : Heap) (mean : ExcName → Option Value) (mg mb : PySem.Str → Option Value)
   (_ : Below (ar dp un gd frs) base frs g) (_ : (KF w.params).In g) (_ : Top qv lo mean mg mb g) (_ : dp + 3 < recursionLimit) (_ : un + 80 < cLine)
   (L ga ma : Addr) (i1 i2 i3 : Addr) (o1 o2 o3 : Obj) (_ : (@Ne Nat i1 (L + 1 + 1 + 1)) ∧ (@Ne Nat i2 (L + 1 + 1 + 1)) ∧ (@Ne Nat i3 (L + 1 + 1 + 1))) (ao mo go : Obj) (_ : ao.data = .cell (some (.str (stL al) ta))) (_ : mo.data = .cell (some (.ref ma))) (_ : go.data = .cell (some (.ref ga))) (_ : IsStrs g ga (gl.map st1)) (_ : IsStrs g ma (ml.map stL)) (s : Shared) (E : Value → Shared → Prop) (m : PySem.Str → Option Value)
   (_ : Fr g L s.heap m) (_ : News g L s.heap [(i1, o1), (i2, o2), (i3, o3), (L + 1 + 1 + 1, ao), (L + 1 + 1, mo), (L + 1, go)])
   (_ : PassesOwn (model PySem.Challenge.rw_wr0050_01.prog w) ((ar dp un gd frs).deeper (env25 L)) (env25 L) E),
   wpAny (model PySem.Challenge.rw_wr0050_01.prog w) ((ar dp un gd frs).deeper (env25 L)) (execs fb25c.1 (env25 L))
       (TurnW s g L m [] (fun m' nw' => ∃ ao', (∃ t, ao'.data = .cell (some (.str (stL (stepA gl ml al)) t))) ∧ ∀ p ∈ [(i1, o1), (i2, o2), (i3, o3), (L + 1 + 1 + 1, ao'), (L + 1 + 1, mo), (L + 1, go)], p ∈ nw')) E s := by
  k_fill
  intro w gl ml hgl hml hmp al hal ta dp un gd frs base g mean mg mb B X T hd hu L ga ma i1 i2 i3 o1 o2 o3 ⟨hp1, hp2, hp3⟩ ao mo go hao hmo hgo hga hma s E m F N hE
  refine hideQ ?_
  intro Q0 hQ0
  obtain ⟨gvs, hgv, hgS⟩ := hga
  obtain ⟨mvs, hmv, hmS⟩ := hma
  have hgvl := hgS.length
  rw [List.length_map] at hgvl
  have hasl : (stL al).length ≤ 100 := by show al.toArray.size ≤ 100; rw [List.size_toArray]; exact hal
  have hmvl := hmS.length
  rw [List.length_map] at hmvl
  k_with "eval ListComp" => refine hold ?_
  k_steps
  unfold Hold
  k_with_none
  rename Fr _ _ _ _ => F1
  rename News _ _ _ _ => N1
  refine LCt.ListComp_T (F₀ := F1) (by with_unfolding_all rfl) (by decide) (by rfl) (by decide) (by rfl) ?_
  k_with "CompSrcT" => refine hold ?_
  k_steps
  unfold Hold
  k_with_none
  rename Fr _ _ _ _ => F2
  rename News _ _ _ _ => N2
  rename IsRange _ _ _ _ _ _ _ _ => hrg
  refine LCt.CompSrcT.range (n := 4) (by rfl) F2 N2 hrg (by decide) (by rfl) (by simp only [sizeLine_eq]; decide) ?_
  intro g'
  refine compT_inv (fun i ys => StrsAre ys ((nextA gl ml al i).map stL)) trivial ?fin ?step 4 0 [] rfl .nil
  case step =>
    intro i ys v I oI C oC D m₂ h tk E' hi hJ hv hC hx F3 N3
    obtain ⟨t, rfl⟩ := hv
    rw [Int.zero_add] at hx
    have hit := fist_item ⟨i, hi⟩
    dsimp only at hit
    have e1 := getD_st1 (gl := gl) (i := i) (by omega)
    have e2 := getD_stL (ml := ml) (i := i) (by omega)
    have hmi : (stL (ml.getD i [])).length ≤ 4 := by
      show (ml.getD i []).toArray.size ≤ 4
      rw [List.size_toArray, List.getD_eq_getElem?_getD, List.getElem?_eq_getElem (by omega)]
      exact hmp _ (List.getElem_mem _)
    rw [← e2] at hmi
    rw [show i = ((i : Int)).toNat from (Int.toNat_natCast i).symm] at hmi
    have hgi : ((gl.map st1).getD i PySem.Str.empty).length ≤ 1 := by rw [e1]; exact Nat.le_refl _
    rw [show i = ((i : Int)).toNat from (Int.toNat_natCast i).symm] at hgi
    k_with "compareOp In str str" => refine hold ?_
    k_steps
    unfold Hold
    k_with_none
    rw [hit]
    refine in_str ?_
    rw [in_stL]
    cases hc : al.contains (ltrs.getD i 0) with
    | true =>
      k_steps
      refine ⟨_, _, rfl, by assumption, by assumption, ?_⟩
      dsimp only
      rw [nextA_succ, if_pos hc, List.map_append]
      refine StrsAre.append' hJ ?_
      rw [Int.toNat_natCast, e1, e2, show st1 (gl.getD i 0) ++ stL (ml.getD i []) = stL (gl.getD i 0 :: ml.getD i []) from stL_app [_] _]
      exact .cons _ _ .nil
    | false =>
      k_steps
      refine ⟨_, _, rfl, by assumption, by assumption, ?_⟩
      dsimp only
      rw [nextA_succ, if_neg (by rw [hc]; decide), List.append_nil]
      exact hJ
  case fin =>
    intro ys hys D h tk F3 N3 hoff
    dsimp only
    k_with "call builtin:str.join" => refine hold ?_
    k_steps
    unfold Hold
    k_with_none
    refine join_list (x := Str.ofString "") (News.isList N3 (.head _)) hys ?_ ?_
    · have h1 := sum_five _ (nextA_five gl ml al (0 + 4) hmp)
      have h2 := nextA_len gl ml al (0 + 4)
      have e0 : (Str.ofString "").length = 0 := rfl
      rw [e0, List.length_map]
      omega
    intro t5 k5
    rw [show Str.ofString "" = stL [] from rfl, join_stL]
    have hjl : (stL (joinS [] (nextA gl ml al (0 + 4)))).length ≤ 100 := by
      show (joinS [] _).toArray.size ≤ 100
      rw [List.size_toArray]
      have h1 := joinS_five _ (nextA_five gl ml al (0 + 4) hmp)
      have h2 := nextA_len gl ml al (0 + 4)
      omega
    have hst : stepA gl ml al = al ++ joinS [] (nextA gl ml al (0 + 4)) := rfl
    rw [hst] at hQ0
    generalize hjn : joinS [] (nextA gl ml al (0 + 4)) = jn at hjl hQ0 ⊢
    k_with "storeName" => refine hold ?_
    k_steps
    unfold Hold
    k_with_none
    rename Fr _ _ _ _ => F8
    rename News _ _ _ _ => N8
    have hU := UpdF.tail (p := (D, LCg.lst ys)) (Ne.symm hoff.2.2.2.1) (.tail (p := (i1, o1)) hp1 (.tail (p := (i2, o2)) hp2 (.tail (p := (i3, o3)) hp3 (.head (d := L + 1 + 1 + 1) (o := ao) (r := [(L + 1 + 1, mo), (L + 1, go)]) (by
      intro p hp
      rcases List.mem_cons.mp hp with rfl | hp
      · exact Nat.ne_of_lt (Nat.lt_succ_self _)
      · rw [List.mem_singleton.mp hp]; exact Nat.ne_of_lt (Nat.lt_succ_of_lt (Nat.lt_succ_self _)))))))
    refine storeX_C F8 N8 rfl hU hao fun h9 o9 F9 N9 d9 => ?_
    refine wpAny_execs_nil (hQ0 _ _ ⟨_, _, _, _, rfl, rfl, F9, N9, fun _ _ => rfl, o9, ⟨_, d9.trans (by rw [stL_app])⟩, fun p hp => .tail _ hp⟩)
end Wr50
end
section
set_option maxRecDepth 100000
set_option maxHeartbeats 4000000
namespace Wr50
open PySem PySem.W PySem.Calls PyProof.Rows
section
variable {prog : Program} {w : World} {A : Around} {E : Value → Shared → Prop} {s : Shared} {env : Env} {h₀ : Heap} {body orelse : List Stmt} {Q : Flow → Shared → Prop}
theorem strTurns {x : PySem.Str} {px : Pos} (hh : A.handled = none) (I : Addr) (y : PySem.Str) (t : Tok) :
    KTurns prog w A (.Name x px) I [I] [I] y.cps.size (fun i v _ => ∃ c u, y.cps[i]? = some c ∧ v = .str ⟨#[c]⟩ u) (fun i v h => (∃ c u, y.cps[i]? = some c ∧ v = .str ⟨#[c]⟩ u) ∧ h.IsStrIter I "str_ascii_iterator" y t (i + 1)) (fun i h => h.IsStrIter I "str_ascii_iterator" y t i) := by
  have W := Walks.strAscii (prog := prog) (w := w) hh I y t
  exact ⟨W.sub, W.frame, fun i s Q E hi st hQ => W.item i s Q E hi st fun v h' tk hP st' hk => hQ v h' tk ⟨hP, st'⟩ hk, fun i v s Q E hm hQ => wpAny_of_eq (a := ()) rfl (hQ s.heap hm.1 hm.2 fun _ _ _ e => e), W.done⟩
/-- a loop over a text's signs, all below 128 -/
theorem for_str {σ : Type} {x : PySem.Str} {px : Pos} {y : List Nat} {ty : Tok} {m₀ : PySem.Str → Option Value} (tb : Nat) (as : List Addr) (Led : σ → List (Addr × Obj)) (ps : σ → List (PySem.Str × Value)) (stored : List PySem.Str) (P : Nat → σ → Prop) (c₀ : σ)
    (hh : A.handled = none) (hy : (stL y).cps.all (· < 128) = true) (htb : tb ≤ s.toks) (F : Fr h₀ env.locals s.heap m₀) (N : News h₀ env.locals s.heap (Led c₀)) (hk : ∀ p ∈ ps c₀, m₀ p.1 = some p.2) (hp : P 0 c₀) (has : ∀ c, ∀ p ∈ Led c, p.1 ∈ as) (hlt : ∀ a ∈ as, ∃ o, (a, o) ∈ Led c₀)
    (turn : ∀ (i c1 : Nat) (t : Tok) (c : σ) (u : PySem.Str → Option Value) (h : Heap) (tk : Nat) (it : Addr) (io : Obj), y[i]? = some c1 → P i c → tb ≤ tk → it ∉ as →
      Fr h₀ env.locals h (kstB (fun z => if stored.contains z then u z else m₀ z) (ps c)) → News h₀ env.locals h ((it, io) :: Led c) →
      wpAny (model prog w) A (assign (.Name x px) env (.str (st1 c1) t)) (fun _ s₂ => wpAny (model prog w) A (execs body env) (ForPost h₀ env.locals s [(it, io)] Led ps stored m₀ (P (i + 1)) Q) E s₂) E { s with heap := h, toks := tk })
    (done : ∀ (c : σ) (u : PySem.Str → Option Value) (h : Heap) (tk : Nat), P y.length c → tb ≤ tk → Fr h₀ env.locals h (kstB (fun z => if stored.contains z then u z else m₀ z) (ps c)) → News h₀ env.locals h (Led c) →
      wpAny (model prog w) A (execs orelse env) Q E { s with heap := h, toks := tk })
    (hE : PassesOwn (model prog w) A env E := by passes_own) :
    wpAny (model prog w) A (pyIter (.str (stL y) ty)) (fun it s₂ => codeAny (model prog w) A (.forLoop (.Name x px) it body orelse env) (fun r s' => match r with | .ok f => Q f s' | .error e => cameBackBy (model prog w) A env E e s') s₂) E s := by
  have lt : ∀ a ∈ as, a < s.heap.objs.size := fun a ha => let ⟨_, ho⟩ := hlt a ha; Heap.lt_size (N _ ho).1
  have hsz : (stL y).cps.size = y.length := by show y.toArray.size = _; simp
  refine wpAny_pyIter_ascii hy ?_
  refine for_T (s := { s with heap := s.heap.push { cls := .type "str_ascii_iterator", data := .fields #[.str (stL y) ty, .int 0 0] } }) (ws := [(s.heap.objs.size, "str_ascii_iterator")]) tb as Led ps stored P c₀
    (KTb.of (strTurns hh s.heap.objs.size (stL y) ty)) htb ⟨_, Heap.get?_push_size _ rfl, rfl, rfl⟩ (F.push _) (fun p hp => ⟨Heap.get?_push_of_some _ (N p hp).1, (N p hp).2⟩) hk hp has ?_ (fun b hb => by simpa using hb) ?_ (fun b hb => .inl (by simpa using hb)) ?_ ?_ ?_
  · intro a ha hb
    have hb' : a = s.heap.objs.size := by simpa using hb
    exact Nat.ne_of_lt (lt a ha) hb'
  · intro b hb
    have hb' : b = s.heap.objs.size := by simpa using hb
    rw [hb']
    exact ⟨next_is_new F, Nat.ne_of_gt F.ns.lt⟩
  · rintro i h ⟨o, ho, hc, _⟩
    exact ⟨[(s.heap.objs.size, o)], ⟨⟨rfl, hc⟩, trivial⟩, fun p hp => by rw [List.mem_singleton.mp hp]; exact ho⟩
  · intro i v c u h tk its hi hP hv ht hits F' N'
    obtain ⟨c1, t, hc, rfl⟩ := hv
    obtain ⟨o, rfl⟩ := objs_one hits
    exact turn i c1 t c u h tk s.heap.objs.size o (by rw [← hc]; show _ = y.toArray[i]?; simp) hP ht (fun hb => Nat.lt_irrefl _ (lt _ hb)) F' N'
  · intro c u h tk hP ht F' N'
    exact done c u h tk (by rw [← hsz]; exact hP) ht F' N'
end
/-- an end that has found, or gone on -/
noncomputable def TurnB (s : Shared) (g : Heap) (L : Addr) (mp : PySem.Str → Option Value) (stored : List PySem.Str) (P : List (Addr × Obj) → Prop) (b : Bool) (fl : Flow) (s' : Shared) : Prop :=
  ∃ h' k m' nw, s' = { s with heap := h', toks := k } ∧ Fr g L h' m' ∧ News g L h' nw ∧ (∀ z, stored.contains z = false → m' z = mp z) ∧ P nw ∧ fl = (if b = true then .ret (.bool true) else .next)
noncomputable abbrev Cells3 (L : Addr) (mo go : Obj) (nw : List (Addr × Obj)) : Prop := ∃ ao', (∃ v₀, ao'.data = .cell v₀) ∧ ∀ p ∈ [(L + 1 + 1 + 1, ao'), (L + 1 + 1, mo), (L + 1, go)], p ∈ nw
noncomputable def hitF (gl : List Nat) (ml : List (List Nat)) (k c : Nat) : Bool := (stepA gl ml (stepA gl ml (stepA gl ml [c]))).contains (ltrs.getD k 0)
theorem stepA_len (gl : List Nat) (ml : List (List Nat)) (al : List Nat) (h : ∀ p ∈ ml, p.length ≤ 4) : (stepA gl ml al).length ≤ al.length + 20 := by
  have h1 := joinS_five _ (nextA_five gl ml al 4 h)
  have h2 := nextA_len gl ml al 4
  rw [stepA, List.length_append]; omega
noncomputable def itA (gl : List Nat) (ml : List (List Nat)) (al : List Nat) : Nat → List Nat
  | 0 => al
  | i + 1 => stepA gl ml (itA gl ml al i)
theorem itA_len (gl : List Nat) (ml : List (List Nat)) (al : List Nat) (h : ∀ p ∈ ml, p.length ≤ 4) : ∀ i, (itA gl ml al i).length ≤ al.length + 20 * i
  | 0 => Nat.le_refl _
  | i + 1 => by have h1 := itA_len gl ml al h i; have h2 := stepA_len gl ml (itA gl ml al i) h; rw [itA]; omega
theorem step_loop : ∀ (w : World) (gl : List Nat) (ml : List (List Nat)) (_ : gl.length = 4) (_ : ml.length = 4) (_ : ∀ p ∈ ml, p.length ≤ 4) (al : List Nat) (_ : al.length ≤ 10) (ta : Tok) (dp un : Nat) (gd : Option (List Code)) (frs : List Env) (base g : Heap) (mean : ExcName → Option Value) (mg mb : PySem.Str → Option Value)
   (_ : Below (ar dp un gd frs) base frs g) (_ : (KF w.params).In g) (_ : Top qv lo mean mg mb g) (_ : dp + 3 < recursionLimit) (_ : un + 80 < cLine)
   (L ga ma : Addr) (i2 i3 : Addr) (o2 o3 : Obj) (_ : (@Ne Nat i2 (L + 1 + 1 + 1)) ∧ (@Ne Nat i3 (L + 1 + 1 + 1))) (ao mo go : Obj) (_ : ao.data = .cell (some (.str (stL al) ta))) (_ : mo.data = .cell (some (.ref ma))) (_ : go.data = .cell (some (.ref ga))) (_ : IsStrs g ga (gl.map st1)) (_ : IsStrs g ma (ml.map stL)) (s : Shared) (E : Value → Shared → Prop) (m : PySem.Str → Option Value)
   (_ : Fr g L s.heap m) (_ : News g L s.heap [(i2, o2), (i3, o3), (L + 1 + 1 + 1, ao), (L + 1 + 1, mo), (L + 1, go)])
   (_ : PassesOwn (model PySem.Challenge.rw_wr0050_01.prog w) ((ar dp un gd frs).deeper (env25 L)) (env25 L) E),
   wpAny (model PySem.Challenge.rw_wr0050_01.prog w) ((ar dp un gd frs).deeper (env25 L)) (exec fs25c.1 (env25 L))
       (TurnW s g L m [Str.ofString "step"] (fun m' nw' => ∃ ao', (∃ t, ao'.data = .cell (some (.str (stL (itA gl ml al 3)) t))) ∧ ∀ p ∈ [(i2, o2), (i3, o3), (L + 1 + 1 + 1, ao'), (L + 1 + 1, mo), (L + 1, go)], p ∈ nw')) E s := by
  k_fill
  intro w gl ml hgl hml hmp al hal ta dp un gd frs base g mean mg mb B X T hd hu L ga ma i2 i3 o2 o3 hap ao mo go hao hmo hgo hga hma s E m F N hE
  refine hideQ ?_
  intro Q0 hQ0
  refine wpAny_For ?_
  k_with "pyIter ref" => refine hold ?_
  k_steps
  unfold Hold
  k_with_none
  rename Fr _ _ _ _ => F1
  rename News _ _ _ _ => N1
  rename IsRange _ _ _ _ _ _ _ _ => hrg
  dsimp only at hrg ⊢
  refine for_range (n := 3) (σ := Obj × Tok × List Nat) 0 [i2, i3, L + 1 + 1 + 1, L + 1 + 1, L + 1] (fun c => [(i2, o2), (i3, o3), (L + 1 + 1 + 1, c.1), (L + 1 + 1, mo), (L + 1, go)]) (fun _ => []) [Str.ofString "step"]
    (fun i c => c.1.data = .cell (some (.str (stL c.2.2) c.2.1)) ∧ c.2.2 = itA gl ml al i) (ao, ta, al) (by rfl) hrg (by omega) (Nat.zero_le _) F1 N1 (fun p hp => nomatch hp) ⟨hao, rfl⟩ ?_ ?_ ?_ ?_ hE
  · exact fun c => all1 (.head _) (all1 (.tail _ (.head _)) (all1 (.tail _ (.tail _ (.head _))) (all1 (.tail _ (.tail _ (.tail _ (.head _)))) (all1 (.tail _ (.tail _ (.tail _ (.tail _ (.head _))))) all0))))
  · refine all1 ?_ (all1 ?_ (all1 ?_ (all1 ?_ (all1 ?_ all0))))
    · exact ⟨_, .head _⟩
    · exact ⟨_, .tail _ (.head _)⟩
    · exact ⟨_, .tail _ (.tail _ (.head _))⟩
    · exact ⟨_, .tail _ (.tail _ (.tail _ (.head _)))⟩
    · exact ⟨_, .tail _ (.tail _ (.tail _ (.tail _ (.head _))))⟩
  · rintro i t ⟨ao1, ta1, al1⟩ u h tk it io hi ⟨ha1, he1⟩ htk hit F2 N2
    dsimp only at ha1 he1 N2 ⊢
    subst he1
    k_with "execs cons" => refine hold ?_
    k_steps
    unfold Hold
    k_with_none
    rename Fr _ _ _ _ => F3
    rename News _ _ _ _ => N3
    have hal1 : (itA gl ml al i).length ≤ 100 := by have := itA_len gl ml al hmp i; omega
    have hit1 : (@Ne Nat it (L + 1 + 1 + 1)) := fun e => hit (by rw [e]; simp)
    refine wpAny_mono (step_turn w gl ml hgl hml hmp (itA gl ml al i) hal1 ta1 dp un gd frs base g mean mg mb B X T hd hu L ga ma it i2 i3 io o2 o3 ⟨hit1, hap⟩ ao1 mo go ha1 hmo hgo hga hma _ E _ F3 N3 hE) (fun fl s' q => ?_) fun _ _ x => x
    obtain ⟨h4, k4, m4, nw4, rfl, rfl, F4, N4, hs4, ao4, ⟨t4, ha4⟩, hsub⟩ := q
    show ForEnd _ _ _ _ _ _ _ _ _ _
    refine for_end (ao4, t4, _) F4 N4 hsub (fun p hp => nomatch hp) ?_ ⟨ha4, rfl⟩
    intro z _ h6
    refine (hs4 z (by simp)).trans ?_
    have h7 : z ≠ Str.ofString "step" := fun e => by rw [e] at h6; exact absurd h6 (by decide)
    simp only [h7, if_false, kstB, h6, Bool.false_eq_true]
  · rintro ⟨ao1, ta1, al1⟩ u h tk ⟨ha1, he1⟩ htk F2 N2
    dsimp only at ha1 he1 F2 N2 ⊢
    subst he1
    refine wpAny_execs_nil (hQ0 _ _ ⟨h, tk, _, _, rfl, rfl, F2, N2, ?_, ao1, ⟨_, ha1⟩, fun p hp => hp⟩)
    intro z h3
    show (if _ then _ else _) = _
    rw [h3]; rfl
end Wr50
end
section
set_option maxRecDepth 100000
set_option maxHeartbeats 4000000
namespace Wr50
open PySem PySem.W PySem.Calls PyProof.Rows
@[reducible] noncomputable def ft25b : { l : Expr // l = forTgt (fb25.1.getD 0 st0) } := by
  apply cap
  conv => rhs; whnf
@[reducible] noncomputable def ft25 : { l : Expr // l = forTgt (b25.1.getD 0 st0) } := by
  apply cap
  conv => rhs; whnf
theorem folder_turn : ∀ (w : World) (gl : List Nat) (ml : List (List Nat)) (_ : gl.length = 4) (_ : ml.length = 4) (_ : ∀ p ∈ ml, p.length ≤ 4) (k c : Nat) (_ : k < 4) (t0 tk0 : Tok) (dp un : Nat) (gd : Option (List Code)) (frs : List Env) (base g : Heap) (mean : ExcName → Option Value) (mg mb : PySem.Str → Option Value)
   (_ : Below (ar dp un gd frs) base frs g) (_ : (KF w.params).In g) (_ : Top qv lo mean mg mb g) (_ : dp + 3 < recursionLimit) (_ : un + 80 < cLine)
   (L ga ma : Addr) (i2 i3 : Addr) (o2 o3 : Obj) (_ : (@Ne Nat i2 (L + 1 + 1 + 1)) ∧ (@Ne Nat i3 (L + 1 + 1 + 1))) (ao mo go : Obj) (v₀ : Option Value) (_ : ao.data = .cell v₀) (_ : mo.data = .cell (some (.ref ma))) (_ : go.data = .cell (some (.ref ga))) (_ : IsStrs g ga (gl.map st1)) (_ : IsStrs g ma (ml.map stL)) (s : Shared) (E : Value → Shared → Prop) (U : PySem.Str → Option Value)
   (_ : Fr g L s.heap (kstB U [(Str.ofString "k", .int (k : Nat) tk0)])) (_ : News g L s.heap [(i2, o2), (i3, o3), (L + 1 + 1 + 1, ao), (L + 1 + 1, mo), (L + 1, go)])
   (_ : PassesOwn (model PySem.Challenge.rw_wr0050_01.prog w) ((ar dp un gd frs).deeper (env25 L)) (env25 L) E),
   wpAny (model PySem.Challenge.rw_wr0050_01.prog w) ((ar dp un gd frs).deeper (env25 L)) (assign ft25b.1 (env25 L) (.str (st1 c) t0)) (fun _ s₂ => wpAny (model PySem.Challenge.rw_wr0050_01.prog w) ((ar dp un gd frs).deeper (env25 L)) (execs fb25b.1 (env25 L))
       (TurnB s g L (kstB U [(Str.ofString "k", .int (k : Nat) tk0)]) [Str.ofString "folder", Str.ofString "step"] (fun nw' => ∃ ao', (∃ v₀, ao'.data = .cell v₀) ∧ ∀ p ∈ [(i2, o2), (i3, o3), (L + 1 + 1 + 1, ao'), (L + 1 + 1, mo), (L + 1, go)], p ∈ nw') (hitF gl ml k c)) E s₂) E s := by
  k_fill
  intro w gl ml hgl hml hmp k c hk t0 tk0 dp un gd frs base g mean mg mb B X T hd hu L ga ma i2 i3 o2 o3 ⟨hp2, hp3⟩ ao mo go v₀ hao hmo hgo hga hma s E U F N hE
  k_with "exec For Name Call cons nil" => refine hold ?_
  k_with "storeName" => (refine' storeX_C ?kF ?kN rfl (.tail (p := (i2, o2)) hp2 (.tail (p := (i3, o3)) hp3 (.head (d := L + 1 + 1 + 1) (o := ao) (r := [(L + 1 + 1, mo), (L + 1, go)]) ?kA))) hao ?_; (case kF => k_asm); (case kN => k_asm); (case kA => k_all); intro h' o' F' N' d')
  k_steps
  unfold Hold
  k_with_none
  rename Fr _ _ _ _ => F1
  rename News _ _ _ _ => N1
  rename Obj.data _ = Data.cell (some (Value.str _ _)) => d1
  refine wpAny_mono (step_loop w gl ml hgl hml hmp [c] (by simp) t0 dp un gd frs base g mean mg mb B X T hd hu L ga ma i2 i3 o2 o3 ⟨hp2, hp3⟩ _ mo go d1 hmo hgo hga hma _ E _ F1 N1 hE) (fun fl s' q => ?_) fun _ _ x => x
  obtain ⟨h3, k3, m3, nw3, rfl, rfl, F3, N3, hs3, ao3, ⟨t3, ha3⟩, hsub⟩ := q
  have N4 := newsSub N3 hsub
  have F4 := kst_self2 (ps := [(Str.ofString "k", .int (k : Nat) tk0)]) (by
    refine List.forall_mem_cons.mpr ⟨?_, List.forall_mem_nil _⟩
    exact (hs3 (Str.ofString "k") (by decide)).trans (by rfl)) F3
  have same4 : ∀ z, [Str.ofString "folder", Str.ofString "step"].contains z = false → kstB m3 [(Str.ofString "k", .int (k : Nat) tk0)] z = kstB U [(Str.ofString "k", .int (k : Nat) tk0)] z := by
    intro z hz
    have hz1 : z ≠ Str.ofString "folder" := fun e => by rw [e] at hz; exact absurd hz (by decide)
    have hz2 : z ≠ Str.ofString "step" := fun e => by rw [e] at hz; exact absurd hz (by decide)
    have e1 := hs3 z (by simp [hz2])
    simp only [kstB, hz1, if_false] at e1 ⊢
    rw [e1]
    split <;> rfl
  have hit := fist_item ⟨k, hk⟩
  dsimp only at hit
  have hh : hitF gl ml k c = (itA gl ml [c] 3).contains (ltrs.getD k 0) := rfl
  rw [hh]
  generalize itA gl ml [c] 3 = al at ha3
  k_with "compareOp In str str" => refine hold ?_
  k_steps
  unfold Hold
  k_with_none
  rw [hit]
  refine in_str ?_
  rw [in_stL]
  cases hc : al.contains (ltrs.getD k 0) with
  | true =>
    k_steps
    exact ⟨_, _, _, _, rfl, by assumption, by assumption, same4, ⟨ao3, ⟨_, ha3⟩, fun p hp => hp⟩, rfl⟩
  | false =>
    k_steps
    exact ⟨_, _, _, _, rfl, by assumption, by assumption, same4, ⟨ao3, ⟨_, ha3⟩, fun p hp => hp⟩, rfl⟩
end Wr50
end
section
set_option maxRecDepth 100000
set_option maxHeartbeats 4000000
namespace Wr50
open PySem PySem.W PySem.Calls PyProof.Rows
theorem folder_loop : ∀ (w : World) (gl : List Nat) (ml : List (List Nat)) (_ : gl.length = 4) (_ : ml.length = 4) (_ : ∀ p ∈ ml, p.length ≤ 4) (_ : ∀ p ∈ ml, ∀ x ∈ p, x < 128) (k : Nat) (_ : k < 4) (tk0 : Tok) (dp un : Nat) (gd : Option (List Code)) (frs : List Env) (base g : Heap) (mean : ExcName → Option Value) (mg mb : PySem.Str → Option Value)
   (_ : Below (ar dp un gd frs) base frs g) (_ : (KF w.params).In g) (_ : Top qv lo mean mg mb g) (_ : dp + 3 < recursionLimit) (_ : un + 80 < cLine)
   (L ga ma : Addr) (i3 : Addr) (o3 : Obj) (_ : (@Ne Nat i3 (L + 1 + 1 + 1))) (ao mo go : Obj) (v₀ : Option Value) (_ : ao.data = .cell v₀) (_ : mo.data = .cell (some (.ref ma))) (_ : go.data = .cell (some (.ref ga))) (_ : IsStrs g ga (gl.map st1)) (_ : IsStrs g ma (ml.map stL)) (s : Shared) (E : Value → Shared → Prop) (U : PySem.Str → Option Value)
   (_ : Fr g L s.heap (kstB U [(Str.ofString "k", .int (k : Nat) tk0)])) (_ : News g L s.heap [(i3, o3), (L + 1 + 1 + 1, ao), (L + 1 + 1, mo), (L + 1, go)])
   (_ : PassesOwn (model PySem.Challenge.rw_wr0050_01.prog w) ((ar dp un gd frs).deeper (env25 L)) (env25 L) E),
   wpAny (model PySem.Challenge.rw_wr0050_01.prog w) ((ar dp un gd frs).deeper (env25 L)) (exec fs25b.1 (env25 L))
       (TurnB s g L (kstB U [(Str.ofString "k", .int (k : Nat) tk0)]) [Str.ofString "folder", Str.ofString "step"] (fun nw' => ∃ ao', (∃ v₀, ao'.data = .cell v₀) ∧ ∀ p ∈ [(i3, o3), (L + 1 + 1 + 1, ao'), (L + 1 + 1, mo), (L + 1, go)], p ∈ nw') ((ml.getD k []).any (hitF gl ml k))) E s := by
  k_fill
  intro w gl ml hgl hml hmp hma8 k hk tk0 dp un gd frs base g mean mg mb B X T hd hu L ga ma i3 o3 hp3 ao mo go v₀ hao hmo hgo hga hma s E U F N hE
  obtain ⟨mvs, hmv, hmS⟩ := hma
  have hmvl := hmS.length
  rw [List.length_map] at hmvl
  refine wpAny_For ?_
  k_with "pyIter str" => refine hold ?_
  k_steps
  unfold Hold
  k_with_none
  rename Fr _ _ _ _ => F1
  rename News _ _ _ _ => N1
  rw [Int.toNat_natCast, getD_stL (by omega)]
  have hkm : ml.getD k [] ∈ ml := by rw [List.getD_eq_getElem?_getD, List.getElem?_eq_getElem (by omega)]; exact List.getElem_mem _
  have h128 := hma8 _ hkm
  generalize ml.getD k [] = y at h128 ⊢
  refine for_str (σ := Obj) 0 [i3, L + 1 + 1 + 1, L + 1 + 1, L + 1] (fun c => [(i3, o3), (L + 1 + 1 + 1, c), (L + 1 + 1, mo), (L + 1, go)]) (fun _ => []) [Str.ofString "folder", Str.ofString "step"]
    (fun i c => (∃ v₀, c.data = .cell v₀) ∧ ∀ x ∈ y.take i, hitF gl ml k x = false) ao (by rfl) ?_ (Nat.zero_le _) F1 N1 (fun p hp => nomatch hp) ⟨⟨_, hao⟩, fun x hx => by simp at hx⟩ ?_ ?_ ?_ ?_ hE
  · show y.toArray.all _ = true
    simpa using h128
  · exact fun c => all1 (.head _) (all1 (.tail _ (.head _)) (all1 (.tail _ (.tail _ (.head _))) (all1 (.tail _ (.tail _ (.tail _ (.head _)))) all0)))
  · refine all1 ?_ (all1 ?_ (all1 ?_ (all1 ?_ all0)))
    · exact ⟨_, .head _⟩
    · exact ⟨_, .tail _ (.head _)⟩
    · exact ⟨_, .tail _ (.tail _ (.head _))⟩
    · exact ⟨_, .tail _ (.tail _ (.tail _ (.head _)))⟩
  · rintro i c1 t ao1 u h tk it io hc ⟨⟨v1, ha1⟩, hno⟩ htk hit F2 N2
    have hit1 : (@Ne Nat it (L + 1 + 1 + 1)) := fun e => hit (by rw [e]; simp)
    have F3 := kst_self2 (ps := [(Str.ofString "k", .int (k : Nat) tk0)]) (by kst_all) F2
    refine wpAny_mono (folder_turn w gl ml hgl hml hmp k c1 hk t tk0 dp un gd frs base g mean mg mb B X T hd hu L ga ma it i3 io o3 ⟨hit1, hp3⟩ ao1 mo go v1 ha1 hmo hgo hga ⟨mvs, hmv, hmS⟩ _ E _ F3 N2 hE) (fun _ s₂ p => wpAny_mono p (fun f s₃ q => ?_) fun _ _ x => x) fun _ _ x => x
    obtain ⟨h4, k4, m4, nw4, rfl, F4, N4, hs4, ⟨ao4, ha4, hsub⟩, rfl⟩ := q
    have hcm : c1 ∈ y := List.mem_of_getElem? hc
    have same : ∀ z, [Str.ofString "folder", Str.ofString "step"].contains z = false → m4 z = kstB U [(Str.ofString "k", .int (k : Nat) tk0)] z := by
      intro z hz
      refine (hs4 z hz).trans ((kstB_self (by kst_all)).trans ?_)
      show (if _ then _ else _) = _
      rw [hz]; rfl
    cases hb : hitF gl ml k c1 with
    | true =>
      have hany : y.any (hitF gl ml k) = true := List.any_eq_true.mpr ⟨c1, hcm, hb⟩
      show TurnB _ _ _ _ _ _ _ _ _
      rw [hany]
      exact ⟨h4, k4, m4, nw4, rfl, F4, N4, same, ⟨ao4, ha4, fun p hp => hsub p (.tail _ hp)⟩, rfl⟩
    | false =>
      show ForEnd _ _ _ _ _ _ _ _ _ _
      refine for_end ao4 F4 N4 hsub (fun p hp => nomatch hp) (fun z _ hz => same z hz) ⟨ha4, fun x hx => ?_⟩
      rw [List.take_add_one, hc] at hx
      rcases List.mem_append.mp hx with hx | hx
      · exact hno x hx
      · rw [List.mem_singleton.mp hx]; exact hb
  · rintro ao1 u h tk ⟨ha1, hno⟩ htk F2 N2
    have hany : y.any (hitF gl ml k) = false := by
      rw [List.any_eq_false]
      intro x hx
      rw [hno x (by rw [List.take_length]; exact hx)]; decide
    rw [hany]
    refine wpAny_execs_nil ⟨h, tk, _, _, rfl, F2, N2, ?_, ⟨ao1, ha1, fun p hp => hp⟩, rfl⟩
    intro z h3
    show (if _ then _ else _) = _
    rw [h3]; rfl
end Wr50
end
section
set_option maxRecDepth 100000
set_option maxHeartbeats 4000000
namespace Wr50
open PySem PySem.W PySem.Calls PyProof.Rows
noncomputable def bett (gl : List Nat) (ml : List (List Nat)) : Bool := (List.range 4).any fun k => (ml.getD k []).any (hitF gl ml k)
theorem k_loop : ∀ (w : World) (gl : List Nat) (ml : List (List Nat)) (_ : gl.length = 4) (_ : ml.length = 4) (_ : ∀ p ∈ ml, p.length ≤ 4) (_ : ∀ p ∈ ml, ∀ x ∈ p, x < 128) (dp un : Nat) (gd : Option (List Code)) (frs : List Env) (base g : Heap) (mean : ExcName → Option Value) (mg mb : PySem.Str → Option Value)
   (_ : Below (ar dp un gd frs) base frs g) (_ : (KF w.params).In g) (_ : Top qv lo mean mg mb g) (_ : dp + 3 < recursionLimit) (_ : un + 80 < cLine)
   (L ga ma : Addr) (ao mo go : Obj) (v₀ : Option Value) (_ : ao.data = .cell v₀) (_ : mo.data = .cell (some (.ref ma))) (_ : go.data = .cell (some (.ref ga))) (_ : IsStrs g ga (gl.map st1)) (_ : IsStrs g ma (ml.map stL)) (s : Shared) (E : Value → Shared → Prop) (m : PySem.Str → Option Value)
   (_ : Fr g L s.heap m) (_ : News g L s.heap [(L + 1 + 1 + 1, ao), (L + 1 + 1, mo), (L + 1, go)])
   (_ : PassesOwn (model PySem.Challenge.rw_wr0050_01.prog w) ((ar dp un gd frs).deeper (env25 L)) (env25 L) E),
   wpAny (model PySem.Challenge.rw_wr0050_01.prog w) ((ar dp un gd frs).deeper (env25 L)) (exec fs25.1 (env25 L))
       (TurnB s g L m [Str.ofString "k", Str.ofString "folder", Str.ofString "step"] (fun nw' => True) (bett gl ml)) E s := by
  k_fill
  intro w gl ml hgl hml hmp hma8 dp un gd frs base g mean mg mb B X T hd hu L ga ma ao mo go v₀ hao hmo hgo hga hma s E m F N hE
  refine wpAny_For ?_
  k_with "pyIter ref" => refine hold ?_
  k_steps
  unfold Hold
  k_with_none
  rename Fr _ _ _ _ => F1
  rename News _ _ _ _ => N1
  rename IsRange _ _ _ _ _ _ _ _ => hrg
  dsimp only at hrg ⊢
  refine for_range (n := 4) (σ := Obj) 0 [L + 1 + 1 + 1, L + 1 + 1, L + 1] (fun c => [(L + 1 + 1 + 1, c), (L + 1 + 1, mo), (L + 1, go)]) (fun _ => []) [Str.ofString "k", Str.ofString "folder", Str.ofString "step"]
    (fun i c => (∃ v₀, c.data = .cell v₀) ∧ ∀ j, j < i → (ml.getD j []).any (hitF gl ml j) = false) ao (by rfl) hrg (by omega) (Nat.zero_le _) F1 N1 (fun p hp => nomatch hp) ⟨⟨_, hao⟩, fun j hj => absurd hj (Nat.not_lt_zero _)⟩ ?_ ?_ ?_ ?_ hE
  · exact fun c => all1 (.head _) (all1 (.tail _ (.head _)) (all1 (.tail _ (.tail _ (.head _))) all0))
  · refine all1 ?_ (all1 ?_ (all1 ?_ all0))
    · exact ⟨_, .head _⟩
    · exact ⟨_, .tail _ (.head _)⟩
    · exact ⟨_, .tail _ (.tail _ (.head _))⟩
  · rintro k t ao1 u h tk it io hk ⟨⟨v1, ha1⟩, hno⟩ htk hit F2 N2
    have hit1 : (@Ne Nat it (L + 1 + 1 + 1)) := fun e => hit (by rw [e]; simp)
    k_with "exec For Name Subscript cons nil" => refine hold ?_
    k_steps
    unfold Hold
    k_with_none
    rename Fr _ _ _ _ => F3
    rename News _ _ _ _ => N3
    have F4 := kst_self2 (ps := [(Str.ofString "k", .int (k : Nat) t)]) (by kst_all) F3
    refine wpAny_mono (folder_loop w gl ml hgl hml hmp hma8 k hk t dp un gd frs base g mean mg mb B X T hd hu L ga ma it io hit1 ao1 mo go v1 ha1 hmo hgo hga hma _ E _ F4 N3 hE) (fun f s₃ q => ?_) fun _ _ x => x
    obtain ⟨h4, k4, m4, nw4, rfl, F5, N5, hs5, ⟨ao4, ha4, hsub⟩, rfl⟩ := q
    have same : ∀ z, [Str.ofString "k", Str.ofString "folder", Str.ofString "step"].contains z = false → m4 z = m z := by
      intro z hz
      have hz1 : z ≠ Str.ofString "k" := fun e => by rw [e] at hz; exact absurd hz (by decide)
      have hz2 : z ≠ Str.ofString "folder" := fun e => by rw [e] at hz; exact absurd hz (by decide)
      have hz3 : z ≠ Str.ofString "step" := fun e => by rw [e] at hz; exact absurd hz (by decide)
      refine (hs5 z (by simp [hz2, hz3])).trans ((kstB_self (by kst_all)).trans ?_)
      simp only [hz1, if_false, kstB, hz, Bool.false_eq_true]
    cases hb : (ml.getD k []).any (hitF gl ml k) with
    | true =>
      have hany : bett gl ml = true := List.any_eq_true.mpr ⟨k, List.mem_range.mpr hk, hb⟩
      show TurnB _ _ _ _ _ _ _ _ _
      rw [hany]
      exact ⟨h4, k4, m4, nw4, rfl, F5, N5, same, trivial, rfl⟩
    | false =>
      simp only [Bool.false_eq_true, if_false]
      refine wpAny_execs_nil ?_
      show ForEnd _ _ _ _ _ _ _ _ _ _
      refine for_end ao4 F5 N5 hsub (fun p hp => nomatch hp) (fun z _ hz => same z hz) ⟨ha4, fun j hj => ?_⟩
      rcases Nat.lt_or_ge j k with h2 | h2
      · exact hno j h2
      · have : j = k := by omega
        rw [this]; exact hb
  · rintro ao1 u h tk ⟨ha1, hno⟩ htk F2 N2
    have hany : bett gl ml = false := by
      unfold bett
      rw [List.any_eq_false]
      intro x hx
      rw [hno x (List.mem_range.mp hx)]; decide
    rw [hany]
    refine wpAny_execs_nil ⟨h, tk, _, _, rfl, F2, N2, ?_, trivial, rfl⟩
    intro z h3
    show (if _ then _ else _) = _
    rw [h3]; rfl
theorem ps_bett (w : World) (ga ma : Addr) (gl : List Nat) (ml : List (List Nat)) (hgl : gl.length = 4) (hml : ml.length = 4) (hmp : ∀ p ∈ ml, p.length ≤ 4) (hma8 : ∀ p ∈ ml, ∀ x ∈ p, x < 128) :
    PS w 204 [.ref ga, .ref ma] 4 100 (fun s => IsStrs s.heap ga (gl.map st1) ∧ IsStrs s.heap ma (ml.map stL)) (fun v _ _ => v = .bool (bett gl ml)) := by
  unfold PS; k_fill
  intro dp un gd frs base mean mg mb s Q E B X T hd hu hpre hret
  refine wpAny_call ?_
  refine' enter_defC (binds := [("gets", .ref ga), ("more", .ref ma)]) X T ?k6 ?k7 ?k8 ?k9 ?kB ?kN ?_ ?c2 ?c3 ?c4
  case k6 => k_is
  case k7 => k_is
  case k8 => ktr_room
  case k9 => rfl
  case kB => rfl
  case kN => decide +kernel
  case c2 => exact rfl
  case c3 => exact rfl
  case c4 => exact rfl
  intro L' h' tk1 cells F' N' Y'
  k_cells Y'
  try simp only [List.cons_append, List.nil_append] at N'
  try k_fold
  rename Obj.data _ = Data.cell (bindC _ _ _ (Str.ofString "asked")) => d1
  rename Obj.data _ = Data.cell (bindC _ _ _ (Str.ofString "more")) => d2
  rename Obj.data _ = Data.cell (bindC _ _ _ (Str.ofString "gets")) => d3
  k_with "exec For Name Call cons nil" => refine hold ?_
  k_steps
  unfold Hold
  k_with_none
  rename Fr _ _ _ _ => F1
  rename News _ _ _ _ => N1
  refine wpAny_mono (k_loop w gl ml hgl hml hmp hma8 dp un gd frs base s.heap mean mg mb B X T (by omega) (by omega) L' ga ma _ _ _ _ d1 d2 d3 hpre.1 hpre.2 ⟨_, _, _, _, _⟩ _ _ F1 N1 ?hps) (fun f s₃ q => ?_) fun _ _ x => x
  case hps => passes_own
  obtain ⟨h4, k4, m4, nw4, rfl, F5, N5, hs5, _, rfl⟩ := q
  cases hb : bett gl ml with
  | true =>
    simp only [if_true]
    show Q (.bool true) _
    exact hret (.bool true) _ _ F5.keep (show Value.bool true = Value.bool (bett gl ml) by rw [hb])
  | false =>
    simp only [Bool.false_eq_true, if_false]
    k_steps
    show Q _ _
    exact hret _ _ _ (Fr.keep (by assumption)) (by rw [hb])
end Wr50
end
section
set_option maxRecDepth 100000
set_option maxHeartbeats 4000000
namespace Wr50
open PySem PySem.W PySem.Calls PyProof.Rows
/-! an order drawn, by the loop -/
noncomputable def subs4 : List (List Nat) := [[102,105,115,116],[102,105,115],[102,105,116],[102,115,116],[105,115,116],[102,105],[102,115],[102,116],[105,115],[105,116],[115,116],[102],[105],[115],[116],[]]
theorem subs_item : ∀ l ∈ subs4, ∀ k : Fin 4, k.val < l.length → Txt.item (stL l) (k.val : Int) = st1 (l.getD k.val 0) ∧ (Txt.slice (stL l) none (some (k.val : Int)) ++ Txt.slice (stL l) (some ((k.val : Int) + 1)) none) = stL (l.eraseIdx k.val) ∧ l.eraseIdx k.val ∈ subs4 := by decide +kernel
structure DrawnAt (n : Nat) (i : Nat) (ov lv : List Nat) (nn : Nat) : Prop where
  lv_in : lv ∈ subs4
  len : lv.length = 4 - i
  olen : ov.length = i
  at_ : (ov, lv, nn) = (List.range i).foldl (fun (c : List Nat × List Nat × Nat) j => (c.1 ++ [c.2.1.getD (c.2.2 % (4 - j)) 0], c.2.1.eraseIdx (c.2.2 % (4 - j)), c.2.2 / (4 - j))) ([], ltrs, n)
theorem drawnAt_start (n : Nat) : DrawnAt n 0 [] ltrs n := ⟨by decide, rfl, rfl, rfl⟩
theorem drawnAt_all {n : Nat} {ov lv : List Nat} {nn : Nat} (h : DrawnAt n 4 ov lv nn) : ov = ordN n := by
  have e := h.at_
  have e1 : ov = _ := congrArg Prod.fst e
  rw [e1]
  simp only [List.range, List.range.loop, List.foldl]
  unfold ordN ordL
  simp only [Nat.div_div_eq_div_mul, Nat.sub_zero]
  simp [Nat.mod_one]
theorem drawnAt_step {n i : Nat} {ov lv : List Nat} {nn : Nat} (hi : i < 4) (h : DrawnAt n i ov lv nn) : DrawnAt n (i + 1) (ov ++ [lv.getD (nn % (4 - i)) 0]) (lv.eraseIdx (nn % (4 - i))) (nn / (4 - i)) := by
  have hk : nn % (4 - i) < 4 - i := Nat.mod_lt _ (by omega)
  refine ⟨?_, ?_, ?_, ?_⟩
  · exact (subs_item lv h.lv_in ⟨nn % (4 - i), by omega⟩ (by rw [h.len]; exact hk)).2.2
  · rw [List.length_eraseIdx_of_lt (by rw [h.len]; exact hk), h.len]; omega
  · rw [List.length_append, h.olen]; rfl
  · rw [List.range_succ, List.foldl_append, ← h.at_]; rfl
theorem size_at {t0 t1 t2 t3 : Tok} {i : Nat} {v : Value} (h : [Value.int 4 t0, Value.int 3 t1, Value.int 2 t2, Value.int 1 t3][i]? = some v) : i < 4 ∧ ∃ t, v = .int ((4 - i : Nat) : Int) t := by
  match i, h with
  | 0, h => exact ⟨by decide, t0, (Option.some.inj h).symm⟩
  | 1, h => exact ⟨by decide, t1, (Option.some.inj h).symm⟩
  | 2, h => exact ⟨by decide, t2, (Option.some.inj h).symm⟩
  | 3, h => exact ⟨by decide, t3, (Option.some.inj h).symm⟩
  | n + 4, h => cases h
theorem pc_order (w : World) (n : Nat) (tn : Tok) : PC w 185 [.int (n : Int) tn] 1 8 (fun _ => True) (fun v _ _ => ∃ t, v = .str (stL (ordN n)) t) := by
  unfold PC; k_fill
  intro dp un gd frs base mean mg mb s Q E B X T hd hu hpre hret
  refine wpAny_call ?_
  refine' enter_def (binds := [("n", .int (n : Int) tn)]) X T ?k6 ?k7 ?k8 ?k9 ?kB ?_ ?c2 ?c3 ?c4 ?c5
  case k6 => k_is
  case k7 => k_is
  case k8 => ktr_room
  case k9 => exact BindsTo.of_eq rfl
  case c5 => decide
  case kB => exact locs rfl
  case c2 => exact rfl
  case c3 => exact rfl
  case c4 => exact rfl
  intro L' h' F' N'
  try k_fold
  k_with "exec For Name List cons nil" => refine hold ?_
  k_steps
  unfold Hold
  k_with_none
  refine wpAny_For ?_
  k_with "pyIter ref" => refine hold ?_
  k_steps
  unfold Hold
  k_with_none
  rename Fr _ _ _ _ => F1
  rename News _ _ _ _ => N1
  rw [show Str.ofString "" = stL [] from rfl, show Str.ofString "fist" = stL ltrs from rfl] at F1
  rename_i la h9 _
  refine for_list (s := ⟨h9, s.gens, s.drawn, _, s.os⟩) (lo := W.listOf #[Value.int 4 _, Value.int 3 _, Value.int 2 _, Value.int 1 _] 0) (σ := List Nat × List Nat × Nat × Tok × Tok × Tok) (vs := [Value.int 4 _, Value.int 3 _, Value.int 2 _, Value.int 1 _]) 0 [la] (fun _ => [(la, _)])
    (fun c => [(Str.ofString "order", .str (stL c.1) c.2.2.2.1), (Str.ofString "left", .str (stL c.2.1) c.2.2.2.2.1), (Str.ofString "n", .int (c.2.2.1 : Nat) c.2.2.2.2.2)]) [Str.ofString "size"]
    (fun i c => DrawnAt n i c.1 c.2.1 c.2.2.1) ([], ltrs, n, tk + 1 + 1, tk, tn) (by rfl) (Nat.zero_le _) F1 N1 ?hk (drawnAt_start n) ?_ ?_ (fun _ => .head _) rfl rfl ?_ ?_ ?hE
  case hk => exact all1 (if_pos rfl) (all1 ((if_neg (show ¬ Str.ofString "left" = Str.ofString "order" by decide)).trans (if_pos rfl)) (all1 ((if_neg (show ¬ Str.ofString "n" = Str.ofString "order" by decide)).trans ((if_neg (show ¬ Str.ofString "n" = Str.ofString "left" by decide)).trans rfl)) all0))
  case hE => passes_own
  · exact fun c => all1 (.head _) all0
  · exact all1 ⟨_, .head _⟩ all0
  · rintro i v ⟨ov, lv, nn, to, tl, t9⟩ u h tk its hv hP _ hits F2 N2
    obtain ⟨hi, t, rfl⟩ := size_at hv
    dsimp only at hP F2 N2 ⊢
    have hlen : (stL lv).length = 4 - i := by show lv.toArray.size = _; rw [List.size_toArray]; exact hP.len
    have hol : (stL ov).length ≤ 4 := by show ov.toArray.size ≤ _; rw [List.size_toArray, hP.olen]; omega
    have hk : nn % (4 - i) < 4 - i := Nat.mod_lt _ (by omega)
    have hst := drawnAt_step hi hP
    obtain ⟨s1, s2, -⟩ := subs_item lv hP.lv_in ⟨nn % (4 - i), by omega⟩ (by rw [hP.len]; exact hk)
    dsimp only at s1 s2
    have hz : 0 < 4 - i := by omega
    have hz4 : 4 - i ≤ 4 := by omega
    clear hv
    generalize 4 - i = z at *
    have hfm : (nn : Int).fmod (z : Int) = ((nn % z : Nat) : Int) := fmN nn z
    have hfd : (nn : Int).fdiv (z : Int) = ((nn / z : Nat) : Int) := fdN nn z
    rw [← hfm] at s1 s2
    have hf : 0 ≤ (nn : Int).fmod (z : Int) ∧ (nn : Int).fmod (z : Int) < (z : Int) := by rw [hfm]; omega
    have hz0 : (z : Int) ≠ 0 := by omega
    have F3 := kst_self2 (ps := [(Str.ofString "order", .str (stL ov) to), (Str.ofString "left", .str (stL lv) tl), (Str.ofString "n", .int (nn : Nat) t9)]) (by kst_all) F2
    clear F1 N1 F2
    refine hideQ2 ?_
    intro Q0 hQ0
    k_steps
    rename Fr _ _ _ _ => F9
    rename News _ _ _ _ => N9
    rw [s1, s2, hfd, show stL ov ++ st1 (lv.getD (nn % z) 0) = stL (ov ++ [lv.getD (nn % z) 0]) from stL_app _ _] at F9
    refine hQ0 _ _ ?_
    show ForEnd _ _ _ _ _ _ _ _ _ _
    have d1 : ¬ Str.ofString "order" = Str.ofString "n" := by decide
    have d2 : ¬ Str.ofString "order" = Str.ofString "left" := by decide
    have d3 : ¬ Str.ofString "left" = Str.ofString "n" := by decide
    refine for_end (its := its) (ov ++ [lv.getD (nn % z) 0], lv.eraseIdx (nn % z), nn / z, _, _, _) F9 N9 (fun p hp => hp) (all1 ((if_neg d1).trans ((if_neg d2).trans (if_pos rfl))) (all1 ((if_neg d3).trans (if_pos rfl)) (all1 (if_pos rfl) all0))) ?_ hst
    intro y hy hs
    have h1 : y ≠ Str.ofString "order" := hy _ (.head _)
    have h2 : y ≠ Str.ofString "left" := hy _ (.tail _ (.head _))
    have h3 : y ≠ Str.ofString "n" := hy _ (.tail _ (.tail _ (.head _)))
    have h4 : y ≠ Str.ofString "size" := fun e => by rw [e] at hs; exact absurd hs (by decide)
    simp only [h1, h2, h3, h4, if_false, kstB, hs, Bool.false_eq_true]
  · rintro ⟨ov, lv, nn, to, tl, t9⟩ u h tk hP _ F2 N2
    dsimp only at hP F2 N2 ⊢
    have F3 := kst_self2 (ps := [(Str.ofString "order", .str (stL ov) to)]) (by kst_all) F2
    have hov := drawnAt_all (show DrawnAt n 4 ov lv nn from hP)
    subst hov
    k_steps
    show Q _ _
    exact hret _ _ _ (Fr.keep (by assumption)) ⟨_, rfl⟩
end Wr50
end
section
set_option maxRecDepth 100000
set_option maxHeartbeats 4000000
namespace Wr50
open PySem PySem.W PySem.Calls PyProof.Rows LCg
section
variable {prog : Program} {w : World} {A : Around} {E : Value → Shared → Prop} {s : Shared} {h₀ : Heap} {L : Addr} {m : PySem.Str → Option Value} {env : Env}
noncomputable abbrev tests (prog : Program) (ifs : List Expr) (env : Env) : Sem Bool := forIn ifs true fun c r => if r = true then do let ok ← isTrue c env (eval c env); pure (ForInStep.yield ok) else pure (ForInStep.yield r)
theorem codeAny_compLoop_any {elt target iter : Expr} {ifs : List Expr} {scope : Scope} {pos : Pos} {it acc : Value} {env : Env} {R : Result → Shared → Prop} (I : Nat → Shared → Prop)
    (turn : ∀ n s, I n s → wpAny (model prog w) A (pyNext it) (fun r s₁ => match r with
      | none => R (.ok .next) s₁
      | some v => wpAny (model prog w) A (letOwnedTupleGo target it v) (fun _ s₁' => wpAny (model prog w) A (assign target env v) (fun _ s₂ =>
          wpAny (model prog w) A (tests prog ifs env) (fun ok s₃ =>
            if ok = true then wpAny (model prog w) A (eval elt env) (fun x s₄ =>
              wpAny (model prog w) A (call (.builtin "list.append") [acc, x]) (fun _ s₅ => ∃ m, m < n ∧ I m s₅) (notedBy (model prog w) A env fun e s' => R (.error e) s') s₄) (notedBy (model prog w) A env fun e s' => R (.error e) s') s₃
            else ∃ m, m < n ∧ I m s₃) (notedBy (model prog w) A env fun e s' => R (.error e) s') s₂) (notedBy (model prog w) A env fun e s' => R (.error e) s') s₁') (notedBy (model prog w) A env fun e s' => R (.error e) s') s₁) (notedBy (model prog w) A env fun e s' => R (.error e) s') s)
    (n : Nat) (h : I n s) : codeAny (model prog w) A (.compLoop (.ListComp elt [⟨target, iter, ifs, 0⟩] scope pos) 0 it acc env) R s := by
  refine codeAny_loop rfl I (fun n s hI => ?_) n h
  show wpAny _ A ((compTurn (.ListComp elt [⟨target, iter, ifs, 0⟩] scope pos) 0 it acc env).onRaise (fun x => do noteFrame x env; theTreesLotGoes x)) _ _ s
  refine wpAny_noted ?_
  rw [compTurn_list]
  refine wpAny_bind (wpAny_standAt (wpAny_bind (wpAny_mono (turn n s hI) (fun r s₁ h₁ => ?_) fun _ _ h' => h')))
  cases r with
  | none => exact wpAny_pure h₁
  | some v =>
    refine wpAny_bind (wpAny_mono h₁ (fun _ s₁' h₁' => ?_) fun _ _ h' => h')
    refine wpAny_bind (wpAny_mono h₁' (fun _ s₂ h₂ => wpAny_bind (wpAny_mono h₂ (fun ok s₃ h₃ => ?_) fun _ _ h' => h')) fun _ _ h' => h')
    cases ok with
    | false => exact wpAny_pure ⟨rfl, h₃⟩
    | true =>
      exact wpAny_bind (wpAny_bind (wpAny_mono h₃ (fun x s₄ h₄ => wpAny_bind (wpAny_mono h₄ (fun _ s₅ h₅ => wpAny_pure (wpAny_pure ⟨rfl, h₅⟩)) fun _ _ h' => h')) fun _ _ h' => h'))
/-- what a comprehension's end asks of its list -/
noncomputable def Block (prog : Program) (w : World) (A : Around) (elt target iter : Expr) (ifs : List Expr) (scope : Scope) (cl : List (PySem.Str × Addr)) (pos : Pos) (env : Env) (h₀ : Heap) (L : Addr) (m : PySem.Str → Option Value) (E : Value → Shared → Prop)
    (Fin : Shared → List Value → List (Addr × Obj) → Prop) (it : Value) (s₂ : Shared) : Prop :=
  ∀ RR : Value → Addr → Result → Shared → Prop,
    (∀ D C h tk m' ys news, Fr h₀ L h m → News h₀ L h ((D, lst ys) :: news) → Off1 D news → h.Ns C m' → h₀.get? C = none → h₀.get? D = none → C ≠ L → D ≠ L → C ≠ D → (∀ p ∈ news, p.1 ≠ C) → Fin s₂ ys news → RR (.ref D) C (.ok .next) { s₂ with heap := h, toks := tk }) →
    wpAny (model prog w) A (newList []) (fun acc s₃ => wpAny (model prog w) A (newFunctionEnv scope env.globals cl [] env.qual none .none (some env)) (fun cenv s₄ =>
      codeAny (model prog w) A (.compStart (.ListComp elt [⟨target, iter, ifs, 0⟩] scope pos) 0 it acc { cenv with scope := relabel scope env }) (RR acc cenv.locals) s₄) E s₃) E s₂
theorem off1_of {D : Addr} : ∀ {l : List (Addr × Obj)}, (∀ p ∈ l, p.1 ≠ D) → Off1 D l
  | [], _ => trivial
  | p :: l, h => ⟨h p (.head _), off1_of fun q hq => h q (.tail _ hq)⟩
/-- a comprehension over any iterator, its ledger standing still, by what holds of the items laid down -/
theorem comp_any {elt target iter : Expr} {ifs : List Expr} {scope : Scope} {cl : List (PySem.Str × Addr)} {pos : Pos} {s₂ : Shared} {I : Addr} {fp wr : List Addr} {n : Nat} {P Md : Nat → Value → Heap → Prop} {St : Nat → Heap → Prop} {news : List (Addr × Obj)}
    {Fin : Shared → List Value → List (Addr × Obj) → Prop} {ws : List (Addr × String)} (J : Nat → List Value → Prop) (PP : Nat → (PySem.Str → Option Value) → Prop)
    (W : KTurns prog w A target I fp wr n P Md St) (hsz : n ≤ sizeLine)
    (hself : ∀ (s : Shared) (Q : Value → Shared → Prop) (E : Value → Shared → Prop), St 0 s.heap → Q (.ref I) s → wpAny (model prog w) A (pyIter (.ref I)) Q E s)
    (hasg : ∀ (i : Nat) (v : Value) (C : Addr) (m' : PySem.Str → Option Value) (s' : Shared) (Q : Unit → Shared → Prop) (E : Value → Shared → Prop), P i v s'.heap → s'.heap.Ns C m' →
      (∀ h' tk' m₂, PP i m₂ → h'.Ns C m₂ → (∀ b o, b ≠ C → s'.heap.get? b = some o → h'.get? b = some o) → Q () { s' with heap := h', toks := tk' }) → wpAny (model prog w) A (assign target (compEnvC scope cl C env) v) Q E s')
    (hcell : ∀ y ∈ scope.names, y.2 ≠ .cell) (hkind : scope.kind = .function) (hst : St 0 s₂.heap) (hfpb : ∀ b ∈ fp, b < s₂.heap.objs.size)
    (F : Fr h₀ L s₂.heap m) (N : News h₀ L s₂.heap news) (hwr : ∀ b ∈ wr, b ∈ ws.map (·.1)) (hws : ∀ b ∈ ws.map (·.1), h₀.get? b = none ∧ b ≠ L ∧ b < s₂.heap.objs.size)
    (hapart : ∀ p ∈ news, p.1 ∉ ws.map (·.1)) (hfp : ∀ b ∈ fp, b ∈ ws.map (·.1) ∨ (∃ o, h₀.get? b = some o) ∨ ∃ o, (b, o) ∈ news)
    (hobj : ∀ i h, St i h → ∃ its, Objs ws its ∧ ∀ p ∈ its, h.get? p.1 = some p.2) (hJ : J 0 [])
    (hfin : ∀ ys, J n ys → Fin s₂ ys news)
    (step : ∀ (i : Nat) (ys : List Value) (its : List (Addr × Obj)) (C : Addr) (oC : Obj) (D : Addr) (m₂ : PySem.Str → Option Value) (h : Heap) (tk : Nat) (E' : Value → Shared → Prop), i < n → ys.length ≤ i → J i ys → PP i m₂ → Objs ws its → NsObj oC m₂ →
      Fr h₀ L h m → News h₀ L h (its ++ (C, oC) :: (D, lst ys) :: news) → (∀ p ∈ news, p.1 ≠ C ∧ p.1 ≠ D) →
      wpAny (model prog w) A (tests prog ifs (compEnvC scope cl C env)) (fun ok s' => if ok = true then
        wpAny (model prog w) A (eval elt (compEnvC scope cl C env)) (CompTail h₀ L m s₂ (its ++ (C, oC) :: (D, lst ys) :: news) (fun y => J (i + 1) (ys ++ [y]))) E' s'
        else CompTail h₀ L m s₂ (its ++ (C, oC) :: (D, lst ys) :: news) (fun _ => J (i + 1) ys) Value.none s') E' { s₂ with heap := h, toks := tk }) :
    Block prog w A elt target iter ifs scope cl pos env h₀ L m E Fin (.ref I) s₂ := by
  intro RR hRR
  refine wpAny_newObj_type (wpAny_newFunctionEnv hcell (by intro y hy; simp at hy) (fun h₁ hns₁ hsb₁ => ?_) hkind)
  dsimp only at hns₁ hsb₁ ⊢
  generalize hH2 : s₂.heap.push { cls := .type "list", dict := none, data := .seq ([] : List Value).toArray } = H2 at hns₁ hsb₁ ⊢
  have hC : H2.objs.size = s₂.heap.objs.size + 1 := by rw [← hH2, Heap.size_push]
  have hDC : s₂.heap.objs.size ≠ H2.objs.size := by rw [hC]; exact Nat.ne_of_lt (Nat.lt_succ_self _)
  have below : ∀ b, b < s₂.heap.objs.size → b ≠ H2.objs.size ∧ b ≠ s₂.heap.objs.size := fun b hb => ⟨by rw [hC]; exact Nat.ne_of_lt (Nat.lt_succ_of_lt hb), Nat.ne_of_lt hb⟩
  have hDf : s₂.heap.objs.size ∉ fp := fun hm => Nat.lt_irrefl _ (hfpb _ hm)
  have hCf : H2.objs.size ∉ fp := fun hm => by have := hfpb _ hm; rw [hC] at this; exact Nat.lt_irrefl _ (Nat.lt_of_succ_lt this)
  have hDw : s₂.heap.objs.size ∉ wr := fun hm => Nat.lt_irrefl _ (hws _ (hwr _ hm)).2.2
  have hCw : H2.objs.size ∉ wr := fun hm => by have := (hws _ (hwr _ hm)).2.2; rw [hC] at this; exact Nat.lt_irrefl _ (Nat.lt_of_succ_lt this)
  have old : ∀ b o, s₂.heap.get? b = some o → h₁.get? b = some o := fun b o e => hsb₁.extBut b o (below b (Heap.lt_size e)).1 (Heap.get?_push_of_some _ (hH2 ▸ Heap.get?_push_of_some _ e))
  have hacc : h₁.get? s₂.heap.objs.size = some (lst []) := hsb₁.extBut _ _ hDC (Heap.get?_push_of_some _ (hH2 ▸ Heap.get?_push_size _ rfl))
  have hst₁ : St 0 h₁ := W.frame _ _ _ hst fun b _ o e => old b o e
  have fresh : ∀ a, s₂.heap.objs.size ≤ a → s₂.heap.get? a = none := fun a ha => by
    cases e : s₂.heap.get? a with
    | none => rfl
    | some o' => exact absurd (Heap.lt_size e) (Nat.not_lt.mpr ha)
  have fresh₀ : ∀ a, s₂.heap.objs.size ≤ a → h₀.get? a = none := fun a ha => by
    cases e : h₀.get? a with
    | none => rfl
    | some o' => have := F.keep a o' e; rw [fresh a ha] at this; cases this
  have hD₀ : h₀.get? s₂.heap.objs.size = none := fresh₀ _ (Nat.le_refl _)
  have hC₀ : h₀.get? H2.objs.size = none := fresh₀ _ (by rw [hC]; exact Nat.le_succ _)
  have hLlt : L < s₂.heap.objs.size := F.ns.lt
  have hDL : s₂.heap.objs.size ≠ L := Ne.symm (below L hLlt).2
  have hCL : H2.objs.size ≠ L := Ne.symm (below L hLlt).1
  have hoff : ∀ p ∈ news, p.1 ≠ H2.objs.size ∧ p.1 ≠ s₂.heap.objs.size := fun p hp => below _ (Heap.lt_size (N p hp).1)
  have go : ∀ (h h' : Heap), Fr h₀ L h m → (∀ b o, b ∉ wr → h.get? b = some o → h'.get? b = some o) → Fr h₀ L h' m := fun h h' F hk =>
    ⟨F.ns.at' fun o e => hk _ o (fun hb => (hws _ (hwr _ hb)).2.1 rfl) e, fun b o e => hk b o (fun hb => by rw [(hws _ (hwr _ hb)).1] at e; cases e) (F.keep b o e), F.above⟩
  have goN : ∀ (h h' : Heap) (ys : List Value), News h₀ L h ((s₂.heap.objs.size, lst ys) :: news) → (∀ b o, b ∉ wr → h.get? b = some o → h'.get? b = some o) → News h₀ L h' ((s₂.heap.objs.size, lst ys) :: news) := fun h h' ys N hk p hp =>
    ⟨hk _ _ (fun hb => by
      rcases List.mem_cons.mp hp with rfl | hp
      · exact hDw hb
      · exact hapart p hp (hwr _ hb)) (N p hp).1, (N p hp).2⟩
  have loop : ∀ s₃ : Shared, s₃ = { s₂ with heap := h₁, toks := s₂.toks + ([] : List (PySem.Str × Value)).length } →
      codeAny (model prog w) A (.compLoop (.ListComp elt [⟨target, iter, ifs, 0⟩] scope pos) 0 (.ref I) (.ref s₂.heap.objs.size) (compEnvC scope cl H2.objs.size env))
        (RR (.ref s₂.heap.objs.size) H2.objs.size) s₃ := by
    rintro s₃ rfl
    refine codeAny_compLoop_any
      (fun k s' => ∃ h' tk i ys m', s' = { s₂ with heap := h', toks := tk } ∧ i ≤ n ∧ k = n + 1 - i ∧ ys.length ≤ i ∧ St i h' ∧ Fr h₀ L h' m ∧ h'.Ns H2.objs.size m' ∧ News h₀ L h' ((s₂.heap.objs.size, lst ys) :: news) ∧ J i ys) ?_ (n + 1)
      ⟨h₁, _, 0, [], _, rfl, Nat.zero_le _, rfl, Nat.le_refl _, hst₁, F.keeps old, hns₁, fun p hp => ?_, hJ⟩
    · rintro k s' ⟨h', tk, i, ys, m', rfl, hi, rfl, hyl, hst', F', hn', N', hJ'⟩
      by_cases hlt : i < n
      · refine W.item i _ _ _ hlt hst' fun v h₂ tk₂ hMd hk₂ => ?_
        refine W.go i v _ _ _ hMd fun h₃ hP hst₃ hk₃ => ?_
        have hk23 : ∀ b o, b ∉ wr → h'.get? b = some o → h₃.get? b = some o := fun b o hb x => hk₃ b o hb (hk₂ b o hb x)
        have F₃ := go _ _ F' hk23
        have N₃ := goN _ _ _ N' hk23
        refine hasg i v H2.objs.size _ _ _ _ hP (hn'.at' fun o e => hk23 _ o hCw e) fun h₄ tk₄ m₄ hPP hn₄ hk₄ => ?_
        have hst₄ : St (i + 1) h₄ := W.frame _ _ _ hst₃ fun b hb o e => hk₄ b o (fun q => hCf (q ▸ hb)) e
        obtain ⟨its, hits, hval⟩ := hobj _ _ hst₄
        have hmap := hits.map
        obtain ⟨oC, heC, hoC⟩ := ns_obj hn₄
        have F₄ : Fr h₀ L h₄ m := ⟨F₃.ns.at' fun o e => hk₄ _ o (Ne.symm hCL) e, fun b o e => hk₄ b o (fun q => by rw [q, hC₀] at e; cases e) (F₃.keep b o e), F₃.above⟩
        have hitb : ∀ p ∈ its, p.1 ∈ ws.map (·.1) := fun p hp => by rw [← hmap]; exact List.mem_map.mpr ⟨p, hp, rfl⟩
        have N₄ : News h₀ L h₄ (its ++ (H2.objs.size, oC) :: (s₂.heap.objs.size, lst ys) :: news) := fun p hp => by
          rcases List.mem_append.mp hp with hp | hp
          · exact ⟨hval p hp, (hws _ (hitb p hp)).2.1, (hws _ (hitb p hp)).1⟩
          · rcases List.mem_cons.mp hp with rfl | hp
            · exact ⟨heC, hCL, hC₀⟩
            · have z := N₃ p hp
              refine ⟨hk₄ _ _ ?_ z.1, z.2⟩
              rcases List.mem_cons.mp hp with rfl | hp
              · exact hDC
              · exact (hoff p hp).1
        have fin : ∀ (h₅ : Heap), Fr h₀ L h₅ m → News h₀ L h₅ (its ++ (H2.objs.size, oC) :: (s₂.heap.objs.size, lst ys) :: news) → St (i + 1) h₅ ∧ h₅.Ns H2.objs.size m₄ ∧ News h₀ L h₅ ((s₂.heap.objs.size, lst ys) :: news) := fun h₅ F₅ N₅ => by
          refine ⟨W.frame _ _ _ hst₄ fun b hb o x => ?_, hoC.ns (N₅ _ (List.mem_append_right _ (.head _))).1, fun p hp => N₅ p (List.mem_append_right _ (.tail _ hp))⟩
          rcases hfp b hb with h | ⟨o', h⟩ | ⟨o', h⟩
          · rw [← hmap] at h
            obtain ⟨p, hp, rfl⟩ := List.mem_map.mp h
            have e1 := hval p hp
            rw [x] at e1
            rw [Option.some.inj e1]
            exact (N₅ p (List.mem_append_left _ hp)).1
          · have e1 := F₄.keep b o' h
            rw [x] at e1
            rw [Option.some.inj e1]
            exact F₅.keep b o' h
          · have e1 := (N₄ (b, o') (List.mem_append_right _ (.tail _ (.tail _ h)))).1
            rw [x] at e1
            rw [Option.some.inj e1]
            exact (N₅ (b, o') (List.mem_append_right _ (.tail _ (.tail _ h)))).1
        refine wpAny_mono (step i ys its H2.objs.size oC s₂.heap.objs.size m₄ h₄ _ _ hlt hyl hJ' hPP hits hoC F₄ N₄ hoff) (fun ok s₄ q => ?_) fun _ _ e => e
        cases ok with
        | true =>
          simp only [if_true] at q ⊢
          refine wpAny_mono q (fun y s₅ z => ?_) fun _ _ e => e
          obtain ⟨h₅, tk₅, rfl, F₅, N₅, hJ₅⟩ := z
          obtain ⟨st5, ns5, nw5⟩ := fin h₅ F₅ N₅
          refine append_at (hsz := by show ys.toArray.size ≤ sizeLine; rw [List.size_toArray]; exact Nat.le_trans (Nat.le_trans hyl hi) hsz) (nw5 _ (.head _)).1 fun h₆ hs₆ hD₆ => ?_
          refine ⟨n + 1 - (i + 1), by omega, h₆, tk₅, i + 1, ys ++ [y], _, rfl, hlt, rfl, by rw [List.length_append, List.length_singleton]; exact Nat.succ_le_succ hyl, W.frame _ _ _ st5 fun b hb o e => hs₆.extBut b o (fun q => hDf (q ▸ hb)) e, F₅.change hs₆ hDL hD₀,
            ns5.sameBut hs₆ (Ne.symm hDC), fun p hp => ?_, hJ₅⟩
          rcases List.mem_cons.mp hp with rfl | hp
          · exact ⟨hD₆.trans (congrArg some (lst_snoc ys y)), hDL, hD₀⟩
          · exact ⟨hs₆.extBut _ _ (hoff p hp).2 (nw5 p (.tail _ hp)).1, (nw5 p (.tail _ hp)).2⟩
        | false =>
          simp only [Bool.false_eq_true, if_false] at q ⊢
          obtain ⟨h₅, tk₅, rfl, F₅, N₅, hJ₅⟩ := q
          obtain ⟨st5, ns5, nw5⟩ := fin h₅ F₅ N₅
          exact ⟨n + 1 - (i + 1), by omega, h₅, tk₅, i + 1, ys, _, rfl, hlt, rfl, Nat.le_succ_of_le hyl, st5, F₅, ns5, nw5, hJ₅⟩
      · obtain rfl : i = n := Nat.le_antisymm hi (Nat.not_lt.mp hlt)
        refine W.done _ _ _ hst' fun h₂ tk₂ hk₂ => ?_
        exact hRR _ _ h₂ tk₂ _ ys news (go _ _ F' hk₂) (goN _ _ _ N' hk₂) (off1_of fun p hp => (hoff p hp).2) (hn'.at' fun o e => hk₂ _ o hCw e) hC₀ hD₀ hCL hDL (Ne.symm hDC) (fun p hp => (hoff p hp).1) (hfin ys hJ')
    · rcases List.mem_cons.mp hp with rfl | hp
      · exact ⟨hacc, hDL, hD₀⟩
      · exact ⟨old _ _ (N p hp).1, (N p hp).2⟩
  exact codeAny_compStart_list (loop _ rfl) (hself _ _ _ hst₁ (loop _ rfl))
/-- a comprehension as a value -/
theorem ListComp_any {elt target iter : Expr} {ifs : List Expr} {scope : Scope} {cl : List (PySem.Str × Addr)} {pos : Pos} {Q : Value → Shared → Prop} (_F₀ : Fr h₀ L s.heap m)
    (hclos : closureFor scope env = pure cl) (hkind : scope.kind = .function) (hnames : ∀ y ∈ scope.names, y.2 = .local → scope.names.lookup y.1 = some .local)
    (h : wpAny (model prog w) A (eval iter env) (fun xv s₁ => wpAny (model prog w) A (pyIter xv) (fun it s₂ => Block prog w A elt target iter ifs scope cl pos env h₀ L m E (fun s₂ => FinE h₀ L m s₂ Q) it s₂) E s₁) E s)
    (hs : ∀ x, foldedSetIterable iter env x = pure x := by intro _; rfl) :
    wpAny (model prog w) A (eval (.ListComp elt [⟨target, iter, ifs, 0⟩] scope pos) env) Q E s := by
  rw [eval_ListComp]
  refine wpAny_comprehension_free (use := none) rfl hs hclos hkind hnames (wpAny_mono h (fun xv s₁ h₁ => ?_) fun _ _ e => e)
  refine wpAny_mono h₁ (fun it s₂ h₂ => h₂ _ ?_) fun _ _ e => e
  intro D C h tk m' ys news' F' N' o1 hn hC₀ hD₀ hCL hDL hCD offC fin
  refine ⟨m', hn, fun h'' hs'' => fin D h'' tk (F'.change hs'' hCL hC₀) (fun p hp => ?_) o1⟩
  refine ⟨hs''.extBut _ _ ?_ (N' p hp).1, (N' p hp).2⟩
  rcases List.mem_cons.mp hp with rfl | hp
  · exact Ne.symm hCD
  · exact offC p hp
/-- a comprehension given a name -/
theorem Assign_ListComp_any {elt target iter : Expr} {ifs : List Expr} {y : PySem.Str} {py : Pos} {scope : Scope} {cl : List (PySem.Str × Addr)} {pos spos : Pos} {Q : Flow → Shared → Prop} (_F₀ : Fr h₀ L s.heap m) (hLe : env.locals = L)
    (hsw : swapsWith (.ListComp elt [⟨target, iter, ifs, 0⟩] scope pos) (some (.Name y py)) spos.line env = pure true)
    (hclos : closureFor scope env = pure cl) (hkind : scope.kind = .function) (hnames : ∀ y ∈ scope.names, y.2 = .local → scope.names.lookup y.1 = some .local)
    (hy : env.kindOf y = some .local) (hp : (env.scope.kind == .class || (env.scope.kind == .module && env.locals != env.globals)) = false)
    (h : wpAny (model prog w) A (eval iter env) (fun xv s₁ => wpAny (model prog w) A (pyIter xv) (fun it s₂ => Block prog w A elt target iter ifs scope cl pos env h₀ L m E (fun s₂ => FinA h₀ L m s₂ y Q) it s₂) E s₁) E s)
    (hs : ∀ x, foldedSetIterable iter env x = pure x := by intro _; rfl) :
    wpAny (model prog w) A (exec (.Assign [.Name y py] (.ListComp elt [⟨target, iter, ifs, 0⟩] scope pos) spos) env) Q E s := by
  subst hLe
  rw [exec_Assign_Name_used _ _ _ _ hsw]
  refine wpAny_bind (wpAny_standAt (wpAny_bind ?_))
  show wpAny _ A (do let _ ← comprehension (.ListComp elt [⟨target, iter, ifs, 0⟩] scope pos) scope env _ (newList []) false (eval iter env) (some (assign (.Name y py) env))) _ _ s
  refine wpAny_bind (wpAny_mono (wpAny_comprehension_free (use := some (assign (.Name y py) env)) (Q := fun _ s' => Q .next s') rfl hs hclos hkind hnames
    (wpAny_mono h (fun xv s₁ h₁ => ?_) fun _ _ e => e)) (fun _ s' hq => wpAny_pure (wpAny_pure hq)) fun _ _ e => e)
  refine wpAny_mono h₁ (fun it s₂ h₂ => h₂ _ ?_) fun _ _ e => e
  intro D C h' tk m' ys news' F' N' o1 hn hC₀ hD₀ hCL hDL hCD offC fin
  show wpAny _ A (assign (.Name y py) env (.ref D)) _ _ _
  refine wpAny_assign_Name (wpAny_storeName_local hy F'.ns (fun h₂ hn₂ hs₂ => ?_) hp)
  have hL₀ : h₀.get? env.locals = none := Heap.get?_none_of_le F'.above
  have F₂ : Fr h₀ env.locals h₂ (fun z => if z = y then some (.ref D) else m z) := ⟨hn₂, fun b o e => hs₂.extBut b o (fun q => by rw [q, hL₀] at e; cases e) (F'.keep b o e), F'.above⟩
  refine ⟨m', hn.sameBut hs₂ hCL, fun h'' hs'' => fin D h'' _ (F₂.change hs'' hCL hC₀) (fun p hp => ?_) o1⟩
  have z : h₂.get? p.1 = some p.2 := hs₂.extBut _ _ (N' p hp).2.1 (N' p hp).1
  refine ⟨hs''.extBut _ _ ?_ z, (N' p hp).2⟩
  rcases List.mem_cons.mp hp with rfl | hp
  · exact Ne.symm hCD
  · exact offC p hp
/-- one name as the target -/
theorem asg_name {scope : Scope} {cl : List (PySem.Str × Addr)} {x : PySem.Str} {px : Pos} {v : Value} {C : Addr} {m' : PySem.Str → Option Value} {s' : Shared} {Q : Unit → Shared → Prop} {E : Value → Shared → Prop} {PP : (PySem.Str → Option Value) → Prop}
    (h : ∀ h' tk' m₂, PP m₂ → h'.Ns C m₂ → (∀ b o, b ≠ C → s'.heap.get? b = some o → h'.get? b = some o) → Q () { s' with heap := h', toks := tk' }) (hkind : scope.kind = .function) (hx : scope.names.lookup x = some .local)
    (hn : s'.heap.Ns C m') (hP : ∀ m₂ : PySem.Str → Option Value, m₂ x = some v → PP m₂) : wpAny (model prog w) A (assign (.Name x px) (compEnvC scope cl C env) v) Q E s' := by
  refine wpAny_assign_Name (wpAny_storeName_local (lookup_relabel_local hx) hn (fun h₃ hn₃ hs₃ => ?_) (by simp [compEnvC, relabel, hkind]))
  exact h h₃ _ _ (hP _ (by simp)) hn₃ fun b o hb e => hs₃.extBut b o hb e
/-- two names as the target -/
theorem asg_pair {scope : Scope} {cl : List (PySem.Str × Addr)} {x x₂ : PySem.Str} {px px₂ tp : Pos} {tk} {v : Value} {C : Addr} {m' : PySem.Str → Option Value} {s' : Shared} {Q : Unit → Shared → Prop} {E : Value → Shared → Prop} {PP : (PySem.Str → Option Value) → Prop}
    (h : ∀ h' tk' m₂, PP m₂ → h'.Ns C m₂ → (∀ b o, b ≠ C → s'.heap.get? b = some o → h'.get? b = some o) → Q () { s' with heap := h', toks := tk' }) (hkind : scope.kind = .function) (hx : scope.names.lookup x = some .local) (hx₂ : scope.names.lookup x₂ = some .local) (hxx : x ≠ x₂) (hh : A.handled = none)
    (hn : s'.heap.Ns C m') (hP : ∃ t v₁ v₂, v = .ref t ∧ IsTup s'.heap t #[v₁, v₂] ∧ ∀ m₂ : PySem.Str → Option Value, m₂ x = some v₁ → m₂ x₂ = some v₂ → PP m₂) : wpAny (model prog w) A (assign (.Tuple [.Name x px, .Name x₂ px₂] tk tp) (compEnvC scope cl C env) v) Q E s' := by
  obtain ⟨t, v₁, v₂, rfl, ht, hpp⟩ := hP
  refine assign_Tuple_tuple hh ht rfl rfl fun h₅ he => ?_
  have he' : ∀ b o, s'.heap.get? b = some o → h₅.get? b = some o := fun b o e => he b o (Nat.ne_of_lt (Heap.lt_size e)) e
  refine assignInOrder_cons (wpAny_assign_Name (wpAny_storeName_local (lookup_relabel_local hx) (hn.at' fun o e => he' _ o e) (fun h₆ hn₆ hs₆ => ?_) (by simp [compEnvC, relabel, hkind])))
  refine assignInOrder_cons (wpAny_assign_Name (wpAny_storeName_local (lookup_relabel_local hx₂) hn₆ (fun h₃ hn₃ hs₃ => ?_) (by simp [compEnvC, relabel, hkind])))
  refine assignInOrder_nil (h h₃ _ _ (hpp _ (by simp [hxx]) (by simp)) hn₃ fun b o hb e => hs₃.extBut b o hb (hs₆.extBut b o hb (he' b o e)))
end
end Wr50
end
section
set_option maxRecDepth 100000
set_option maxHeartbeats 4000000
namespace Wr50
open PySem PySem.W PySem.Calls PyProof.Rows LCg
section
variable {prog : Program} {w : World} {A : Around} {E : Value → Shared → Prop} {s : Shared} {h₀ : Heap} {L : Addr} {m : PySem.Str → Option Value} {env : Env} {elt iter : Expr} {ifs : List Expr} {x : PySem.Str} {px pos : Pos} {scope : Scope} {cl : List (PySem.Str × Addr)} {news : List (Addr × Obj)} {Fin : Shared → List Value → List (Addr × Obj) → Prop}
/-- one turn of a comprehension with one name, at an iterator of one object -/
noncomputable def CompStep (prog : Program) (w : World) (A : Around) (elt : Expr) (ifs : List Expr) (x : PySem.Str) (scope : Scope) (cl : List (PySem.Str × Addr)) (env : Env) (h₀ : Heap) (L : Addr) (m : PySem.Str → Option Value) (s : Shared) (news : List (Addr × Obj)) (J : Nat → List Value → Prop) (i : Nat) (ys : List Value) (v : Value) : Prop :=
  ∀ (I : Addr) (oI : Obj) (C : Addr) (oC : Obj) (D : Addr) (m₂ : PySem.Str → Option Value) (h : Heap) (tk : Nat) (E' : Value → Shared → Prop), m₂ x = some v → NsObj oC m₂ → Fr h₀ L h m → News h₀ L h ((I, oI) :: (C, oC) :: (D, lst ys) :: news) → (∀ p ∈ news, p.1 ≠ I ∧ p.1 ≠ C ∧ p.1 ≠ D) →
    wpAny (model prog w) A (tests prog ifs (compEnvC scope cl C env)) (fun ok s' => if ok = true then
      wpAny (model prog w) A (eval elt (compEnvC scope cl C env)) (CompTail h₀ L m s ((I, oI) :: (C, oC) :: (D, lst ys) :: news) (fun y => J (i + 1) (ys ++ [y]))) E' s'
      else CompTail h₀ L m s ((I, oI) :: (C, oC) :: (D, lst ys) :: news) (fun _ => J (i + 1) ys) Value.none s') E' { s with heap := h, toks := tk }
theorem comp_list {its : Array Value} {ax : Addr} (J : Nat → List Value → Prop) (hh : A.handled = none) (hl : s.heap.IsList ax its) (hax : (∃ o, h₀.get? ax = some o) ∨ ∃ o, (ax, o) ∈ news) (hsz : its.size ≤ sizeLine)
    (hcell : ∀ y ∈ scope.names, y.2 ≠ .cell) (hkind : scope.kind = .function) (hx : scope.names.lookup x = some .local) (F : Fr h₀ L s.heap m) (N : News h₀ L s.heap news) (hJ : J 0 [])
    (hfin : ∀ g ys, J its.size ys → Fin { s with heap := g } ys news)
    (step : ∀ (i : Nat) (ys : List Value) (v : Value), its[i]? = some v → ys.length ≤ i → J i ys → CompStep prog w A elt ifs x scope cl env h₀ L m s news J i ys v) :
    wpAny (model prog w) A (pyIter (.ref ax)) (fun it s₂ => Block prog w A elt (.Name x px) iter ifs scope cl pos env h₀ L m E Fin it s₂) E s := by
  have hlt : ax < s.heap.objs.size := by obtain ⟨_, e, _⟩ := hl; exact Heap.lt_size e
  refine wpAny_pyIter_list hl ?_
  have up : ∀ b o, s.heap.get? b = some o → (s.heap.push { cls := .type "list_iterator", data := .fields #[.ref ax, .int 0 0] }).get? b = some o := fun b o e => Heap.get?_push_of_some _ e
  have W := Walks.list (prog := prog) (w := w) hh s.heap.objs.size ax (Nat.ne_of_lt hlt) its
  refine comp_any (I := s.heap.objs.size) (ws := [(s.heap.objs.size, "list_iterator")]) J (fun i m₂ => ∃ v, its[i]? = some v ∧ m₂ x = some v)
    (KTurns.ofWalks (target := .Name x px) W fun i v s Q E _ h => wpAny_of_eq (a := ()) rfl h) hsz (fun s Q E st h => W.self 0 s Q E st h) ?_ hcell hkind ⟨⟨_, Heap.get?_push_size _ rfl, rfl, rfl⟩, hl.push _⟩ ?_
    (F.keeps up) (N.grown up) (fun b hb => by simpa using hb) ?_ ?_ ?_ ?_ hJ (hfin _) ?_
  · intro i v C m' s' Q E hv hn h
    exact asg_name h hkind hx hn fun m₂ e => ⟨v, hv, e⟩
  · intro b hb
    rw [Heap.size_push]
    rcases List.mem_cons.mp hb with rfl | hb
    · exact Nat.lt_succ_self _
    · rw [List.mem_singleton.mp hb]; exact Nat.lt_succ_of_lt hlt
  · intro b hb
    have hb' : b = s.heap.objs.size := by simpa using hb
    rw [hb', Heap.size_push]
    exact ⟨next_is_new F, Nat.ne_of_gt F.ns.lt, Nat.lt_succ_self _⟩
  · intro p hp hb
    have hb' : p.1 = s.heap.objs.size := by simpa using hb
    exact Nat.ne_of_lt (Heap.lt_size (N p hp).1) hb'
  · intro b hb
    rcases List.mem_cons.mp hb with rfl | hb
    · exact .inl (by simp)
    · rw [List.mem_singleton.mp hb]; exact .inr hax
  · rintro i h ⟨⟨o, ho, hc, _⟩, _⟩
    exact ⟨[(s.heap.objs.size, o)], ⟨⟨rfl, hc⟩, trivial⟩, fun p hp => by rw [List.mem_singleton.mp hp]; exact ho⟩
  · rintro i ys its' C oC D m₂ h tk E' hi hyl hJ ⟨v, hv, hm⟩ hits hoC F' N' hoff
    obtain ⟨o, rfl⟩ := objs_one hits
    exact step i ys v hv hyl hJ s.heap.objs.size o C oC D m₂ h tk E' hm hoC F' N' fun p hp => ⟨Nat.ne_of_lt (Heap.lt_size (N p hp).1), hoff p hp⟩
theorem comp_str {y : PySem.Str} {ty : Tok} (J : Nat → List Value → Prop) (hh : A.handled = none) (hsz : y.cps.size ≤ sizeLine)
    (hcell : ∀ y ∈ scope.names, y.2 ≠ .cell) (hkind : scope.kind = .function) (hx : scope.names.lookup x = some .local) (F : Fr h₀ L s.heap m) (N : News h₀ L s.heap news) (hJ : J 0 [])
    (hfin : ∀ g ys, J y.cps.size ys → Fin { s with heap := g } ys news)
    (step : ∀ (i : Nat) (ys : List Value) (c : Nat) (u : Tok), y.cps[i]? = some c → ys.length ≤ i → J i ys → CompStep prog w A elt ifs x scope cl env h₀ L m s news J i ys (.str (st1 c) u)) :
    wpAny (model prog w) A (pyIter (.str y ty)) (fun it s₂ => Block prog w A elt (.Name x px) iter ifs scope cl pos env h₀ L m E Fin it s₂) E s := by
  have main : ∀ (n : String) (St : Nat → Heap → Prop) (o₀ : Obj) (_ : Walks prog w A s.heap.objs.size [s.heap.objs.size] [s.heap.objs.size] y.cps.size (SignAt y) St) (_ : St 0 (s.heap.push o₀)) (_ : ∀ i h, St i h → ∃ o, h.get? s.heap.objs.size = some o ∧ o.cls = .type n),
      Block prog w A elt (.Name x px) iter ifs scope cl pos env h₀ L m E Fin (.ref s.heap.objs.size) { s with heap := s.heap.push o₀ } := by
    intro n St o₀ W st hcls
    have up : ∀ b o, s.heap.get? b = some o → (s.heap.push o₀).get? b = some o := fun b o e => Heap.get?_push_of_some _ e
    refine comp_any (I := s.heap.objs.size) (ws := [(s.heap.objs.size, n)]) J (fun i m₂ => ∃ v, SignAt y i v ∧ m₂ x = some v)
      (KTurns.ofWalks (target := .Name x px) W fun i v s Q E _ h => wpAny_of_eq (a := ()) rfl h) hsz (fun s Q E st h => W.self 0 s Q E st h) ?_ hcell hkind st ?_
      (F.keeps up) (N.grown up) (fun b hb => by simpa using hb) ?_ ?_ ?_ ?_ hJ (hfin _) ?_
    · intro i v C m' s' Q E hv hn h
      exact asg_name h hkind hx hn fun m₂ e => ⟨v, hv, e⟩
    · intro b hb
      rw [Heap.size_push, List.mem_singleton.mp hb]
      exact Nat.lt_succ_self _
    · intro b hb
      have hb' : b = s.heap.objs.size := by simpa using hb
      rw [hb', Heap.size_push]
      exact ⟨next_is_new F, Nat.ne_of_gt F.ns.lt, Nat.lt_succ_self _⟩
    · intro p hp hb
      have hb' : p.1 = s.heap.objs.size := by simpa using hb
      exact Nat.ne_of_lt (Heap.lt_size (N p hp).1) hb'
    · intro b hb
      exact .inl (by simpa using hb)
    · rintro i h hst
      obtain ⟨o, ho, hc⟩ := hcls i h hst
      exact ⟨[(s.heap.objs.size, o)], ⟨⟨rfl, hc⟩, trivial⟩, fun p hp => by rw [List.mem_singleton.mp hp]; exact ho⟩
    · rintro i ys its' C oC D m₂ h tk E' hi hyl hJ ⟨v, ⟨c, u, hc, rfl⟩, hm⟩ hits hoC F' N' hoff
      obtain ⟨o, rfl⟩ := objs_one hits
      exact step i ys c u hc hyl hJ s.heap.objs.size o C oC D m₂ h tk E' hm hoC F' N' fun p hp => ⟨Nat.ne_of_lt (Heap.lt_size (N p hp).1), hoff p hp⟩
  cases ha : y.cps.all (· < 128)
  · refine wpAny_pyIter_wide ha (main "str_iterator" _ _ (Walks.strWide hh _ y ty) ⟨_, Heap.get?_push_size _ rfl, rfl, rfl⟩ ?_)
    rintro i h ⟨o, ho, hc, _⟩
    exact ⟨o, ho, hc⟩
  · refine wpAny_pyIter_ascii ha (main "str_ascii_iterator" _ _ (Walks.strAscii hh _ y ty) ⟨_, Heap.get?_push_size _ rfl, rfl, rfl⟩ ?_)
    rintro i h ⟨o, ho, hc, _⟩
    exact ⟨o, ho, hc⟩
theorem comp_range {r : Addr} {b : Int} {t u v : Tok} {n : Nat} (J : Nat → List Value → Prop) (hh : A.handled = none) (hr : IsRange s.heap r 0 b 1 t u v) (hsm : Builtin.Range.small 0 b 1 = true) (hn : Builtin.Range.rangeSize 0 b 1 = ((n : Nat) : Int)) (hsz : n ≤ sizeLine)
    (hcell : ∀ y ∈ scope.names, y.2 ≠ .cell) (hkind : scope.kind = .function) (hx : scope.names.lookup x = some .local) (F : Fr h₀ L s.heap m) (N : News h₀ L s.heap news) (hJ : J 0 [])
    (hfin : ∀ g ys, J n ys → Fin { s with heap := g } ys news)
    (step : ∀ (i : Nat) (ys : List Value) (t : Tok), i < n → ys.length ≤ i → J i ys → CompStep prog w A elt ifs x scope cl env h₀ L m s news J i ys (.int (i : Nat) t)) :
    wpAny (model prog w) A (pyIter (.ref r)) (fun it s₂ => Block prog w A elt (.Name x px) iter ifs scope cl pos env h₀ L m E Fin it s₂) E s := by
  refine wpAny_pyIter_range hr hsm ?_
  have W := range_walks (prog := prog) (w := w) (I := s.heap.objs.size) hh 0 n
  refine comp_any (I := s.heap.objs.size) (ws := [(s.heap.objs.size, "range_iterator")]) J (fun i m₂ => ∃ t, m₂ x = some (.int (i : Nat) t))
    (KTurns.ofWalks (target := .Name x px) W fun i v s Q E _ h => wpAny_of_eq (a := ()) rfl h) hsz (fun s Q E st h => W.self 0 s Q E st h) ?_ hcell hkind (by show IsRangeIter _ _ _ _ _; rw [hn]; simpa using Heap.get?_push_size _ rfl) ?_
    (F.keeps fun _ _ e => Heap.get?_push_of_some _ e) (N.grown fun _ _ e => Heap.get?_push_of_some _ e) (fun b hb => by simpa using hb) ?_ ?_ ?_ ?_ hJ (hfin _) ?_
  · rintro i v C m' s' Q E ⟨t, rfl⟩ hn h
    exact asg_name h hkind hx hn fun m₂ e => ⟨t, by rw [e, Int.zero_add]⟩
  · intro b hb
    rw [Heap.size_push, List.mem_singleton.mp hb]
    exact Nat.lt_succ_self _
  · intro b hb
    have hb' : b = s.heap.objs.size := by simpa using hb
    rw [hb', Heap.size_push]
    exact ⟨next_is_new F, Nat.ne_of_gt F.ns.lt, Nat.lt_succ_self _⟩
  · intro p hp hb
    have hb' : p.1 = s.heap.objs.size := by simpa using hb
    exact Nat.ne_of_lt (Heap.lt_size (N p hp).1) hb'
  · intro b hb
    exact .inl (by simpa using hb)
  · rintro i h hst
    exact ⟨[(s.heap.objs.size, _)], ⟨⟨rfl, rfl⟩, trivial⟩, fun p hp => by rw [List.mem_singleton.mp hp]; exact hst⟩
  · rintro i ys its' C oC D m₂ h tk E' hi hyl hJ ⟨t, hm⟩ hits hoC F' N' hoff
    obtain ⟨o, rfl⟩ := objs_one hits
    exact step i ys t hi hyl hJ s.heap.objs.size o C oC D m₂ h tk E' hm hoC F' N' fun p hp => ⟨Nat.ne_of_lt (Heap.lt_size (N p hp).1), hoff p hp⟩
end
end Wr50
end
section
set_option maxRecDepth 100000
set_option maxHeartbeats 4000000
namespace Wr50
open PySem PySem.W PySem.Calls PyProof.Rows
@[reducible] noncomputable def q0 : { l : Stmt // l = b26.1.getD 0 st0 } := by
  apply cap
  conv => rhs; whnf
noncomputable abbrev env26 (L : Addr) : Env := envOfC (Str.ofString "law") s26.val L 209 (Value.ref 208)
theorem objs_two {w1 w2 : Addr × String} {its : List (Addr × Obj)} (h : Objs [w1, w2] its) : ∃ o1 o2, its = [(w1.1, o1), (w2.1, o2)] ∧ o1.cls = .type w1.2 ∧ o2.cls = .type w2.2 := by
  cases its with
  | nil => cases h
  | cons p r =>
    cases r with
    | nil => exact absurd h.2 id
    | cons q r =>
      cases r with
      | nil => exact ⟨p.2, q.2, by rw [← h.1.1, ← h.2.1.1], h.1.2, h.2.1.2⟩
      | cons x y => exact absurd h.2.2 id
noncomputable def natL (l : List Nat) : List Int := l.map Int.ofNat
theorem law_0 : ∀ (w : World) (dp un : Nat) (gd : Option (List Code)) (frs : List Env) (base g : Heap) (mean : ExcName → Option Value) (mg mb : PySem.Str → Option Value)
   (_ : Below (ar dp un gd frs) base frs g) (_ : (KF w.params).In g) (_ : Top qv lo mean mg mb g) (_ : dp + 10 < recursionLimit) (_ : un + 200 < cLine)
   (L sa : Addr) (vs : List Value) (ns : List Int) (co c2 c3 c4 c5 c6 : Obj) (_ : co.data = .cell (some (.ref sa))) (_ : g.IsList sa vs.toArray) (_ : IntsAre vs ns) (_ : ns.length ≤ 63) (s : Shared) (E : Value → Shared → Prop) (m : PySem.Str → Option Value) 
   (_ : Fr g L s.heap m) (_ : News g L s.heap [(L + 1, co), (L + 1 + 1, c2), (L + 1 + 1 + 1, c3), (L + 1 + 1 + 1 + 1, c4), (L + 1 + 1 + 1 + 1 + 1, c5), (L + 1 + 1 + 1 + 1 + 1 + 1, c6)])
   (_ : PassesOwn (model PySem.Challenge.rw_wr0050_01.prog w) ((ar dp un gd frs).deeper (env26 L)) (env26 L) E),
   wpAny (model PySem.Challenge.rw_wr0050_01.prog w) ((ar dp un gd frs).deeper (env26 L)) (exec q0.1 (env26 L))
       (TurnW s g L m [Str.ofString "numbers"] (fun m' nw' => ∃ na nvs nn n, m' (Str.ofString "numbers") = some (.ref na) ∧ IntsAre nvs (natL nn) ∧ (∀ x ∈ nn, x < 1000000) ∧ nn.length = 6 ∧ ∀ p ∈ [(na, W.listOf nvs.toArray n), (L + 1 + 1, c2), (L + 1 + 1 + 1, c3), (L + 1 + 1 + 1 + 1, c4), (L + 1 + 1 + 1 + 1 + 1, c5), (L + 1 + 1 + 1 + 1 + 1 + 1, c6)], p ∈ nw')) E s := by
  k_fill
  intro w dp un gd frs base g mean mg mb B X T hd hu L sa vs ns co c2 c3 c4 c5 c6 hco hl hi hn s E m F N hE
  refine hideQ ?_
  intro Q0 hQ0
  have hl : vs.length = ns.length := hi.length
  k_with "call type:enumerate" => refine hold ?_
  k_with "eval ListComp" => refine hold ?_
  k_with "exec Assign cons ListComp nil" => refine hold ?_
  k_with "exec Assign" => refine hold ?_
  refine Assign_ListComp_any F (by rfl) (by rfl) (by with_unfolding_all rfl) (by rfl) (by decide) (by rfl) (by rfl) ?_
  k_steps
  unfold Hold
  k_with_none
  rename Fr _ _ _ _ => F0
  rename News _ _ _ _ => N0
  rename_i la h0 _
  obtain ⟨a6, ha6, hz6, hi6⟩ : ∃ a : Array Value, #[Value.int 37 s.toks, Value.int 110 (s.toks + 1), Value.int 253 (s.toks + 1 + 1), Value.int 52 (s.toks + 1 + 1 + 1), Value.int 1361 (s.toks + 1 + 1 + 1 + 1), Value.int 4130 (s.toks + 1 + 1 + 1 + 1 + 1)] = a ∧ a.size = 6 ∧ ∀ (i : Nat) x, a[i]? = some x → ∃ o t, x = .int o t := by
    refine ⟨_, rfl, rfl, fun i x hx => ?_⟩
    have hm := Array.mem_of_getElem? hx
    simp only [List.mem_toArray, List.mem_cons, List.not_mem_nil, or_false] at hm
    rcases hm with rfl | rfl | rfl | rfl | rfl | rfl <;> exact ⟨_, _, rfl⟩
  rw [ha6] at N0
  have hlk := News.isList N0 (.head _)
  refine call_enumerate_list hlk fun h1 hE1 hI1 hz1 hk1 => ?_
  refine wpAny_pyIter_enum hE1 ?_
  dsimp only at F0 hE1 hI1 hz1 hk1 hlk ⊢
  have F1 := F0.keeps hk1
  have N1 := N0.grown hk1
  have hlk1 := News.isList N1 (.head _)
  have hlt := F0.ns.lt
  have hla : la < h0.objs.size := Heap.lt_size (N0 _ (.head _)).1
  have hlL : L + 1 < h0.objs.size := Heap.lt_size (N0 _ (.tail _ (.head _))).1
  refine' comp_any (I := h0.objs.size + 1) (ws := [(h0.objs.size + 1, "enumerate"), (h0.objs.size, "list_iterator")]) (fun i ys => ∃ nn, IntsAre ys (natL nn) ∧ (∀ x ∈ nn, x < 1000000) ∧ nn.length = i) (fun i m₂ => ∃ o t t', m₂ (Str.ofString "k") = some (.int (i : Nat) t) ∧ m₂ (Str.ofString "own") = some (.int o t'))
    (KTurns.ofWalksU (WalksT.enumerate (by rfl) (h0.objs.size + 1) h0.objs.size la (Nat.succ_ne_self _) (ktu_ne 1 hla) (Nat.ne_of_lt hla) a6).toU) ?sz ?self ?asg ?c1 ?c2 ⟨⟨.none, hE1⟩, hI1, hlk1⟩ ?fpb F1 N1 (fun b hb => by simpa using hb) ?ws ?apart ?fp ?obj ⟨[], .nil, (fun x hx => nomatch hx), rfl⟩ ?fin ?step
  case sz => rw [hz6]; simp only [sizeLine_eq]; decide
  case c1 => decide
  case c2 => rfl
  case self =>
    intro s Q E st h
    obtain ⟨⟨old, he⟩, _⟩ := st
    exact wpAny_pyIter_enum he h
  case asg =>
    rintro i v C m' s' Q E ⟨T1, vals, rfl, ⟨t1, x9, hx, rfl⟩, hT1⟩ hn h
    obtain ⟨o, t, rfl⟩ := hi6 i x9 hx
    exact asg_pair h (by rfl) (by rfl) (by rfl) (by decide) (by rfl) hn ⟨T1, _, _, rfl, hT1, fun m₂ h1 h2 => ⟨o, t1, t, h1, h2⟩⟩
  case fpb =>
    intro b hb
    have hb' : b = h0.objs.size + 1 ∨ b = h0.objs.size ∨ b = la := by simpa using hb
    rcases hb' with rfl | rfl | rfl
    · rw [hz1]; exact Nat.lt_succ_self _
    · rw [hz1]; exact Nat.lt_succ_of_lt (Nat.lt_succ_self _)
    · rw [hz1]; exact Nat.lt_succ_of_lt (Nat.lt_succ_of_lt hla)
  case ws =>
    intro b hb
    have hb' : b = h0.objs.size + 1 ∨ b = h0.objs.size := by simpa using hb
    rcases hb' with rfl | rfl
    · exact ⟨ktu_new F0 (Nat.le_add_right _ _), Nat.ne_of_gt (Nat.lt_succ_of_lt hlt), by rw [hz1]; exact Nat.lt_succ_self _⟩
    · exact ⟨ktu_new F0 (Nat.le_refl _), Nat.ne_of_gt hlt, by rw [hz1]; exact Nat.lt_succ_of_lt (Nat.lt_succ_self _)⟩
  case apart =>
    intro p hp hb
    have hlt2 : p.1 < h0.objs.size := Heap.lt_size (N0 p hp).1
    have hb' : p.1 = h0.objs.size + 1 ∨ p.1 = h0.objs.size := by simpa using hb
    rcases hb' with e | e
    · rw [e] at hlt2; exact Nat.lt_irrefl _ (Nat.lt_of_succ_lt hlt2)
    · rw [e] at hlt2; exact Nat.lt_irrefl _ hlt2
  case fp =>
    intro b hb
    have hb' : b = h0.objs.size + 1 ∨ b = h0.objs.size ∨ b = la := by simpa using hb
    rcases hb' with rfl | rfl | rfl
    · exact .inl (by simp)
    · exact .inl (by simp)
    · exact .inr (.inr ⟨_, .head _⟩)
  case obj =>
    rintro i h ⟨⟨old, he⟩, ⟨oi, hoi, hic, _⟩, _⟩
    exact ⟨[(h0.objs.size + 1, _), (h0.objs.size, oi)], ⟨⟨rfl, rfl⟩, ⟨rfl, hic⟩, trivial⟩, fun p hp => by
      rcases List.mem_cons.mp hp with rfl | hp
      · exact he
      · rw [List.mem_singleton.mp hp]; exact hoi⟩
  case fin =>
    rintro ys ⟨nn, hn1, hn2, hn3⟩ D h tk F2 N2 _
    refine hQ0 _ _ ⟨_, _, _, _, rfl, rfl, F2, N2, fun z hz => ?_, D, ys, nn, ys.length, ?_, hn1, hn2, hn3.trans hz6, fun p hp => ?_⟩
    · have hz' : z ≠ Str.ofString "numbers" := fun e => by rw [e] at hz; revert hz; decide
      rw [if_neg hz']
    · simp
    · rcases List.mem_cons.mp hp with rfl | hp
      · exact .head _
      · exact .tail _ (.tail _ (.tail _ hp))
  case step =>
    intro i ys its C oC D m₂ h tk E' hi7 hyl hJ hPP hits hoC F2 N2 hoff
    obtain ⟨nn, hn1, hn2, hn3⟩ := hJ
    obtain ⟨o, t, t', hk, ho⟩ := hPP
    obtain ⟨p1, p2, rfl, h1, h2⟩ := objs_two hits
    rw [hz6] at hi7
    refine wpAny_tests_nil ?_
    simp only [if_true]
    simp only [List.cons_append, List.nil_append] at N2
    k_with "call builtin:sum" => refine hold ?_
    k_steps
    unfold Hold
    k_with_none
    rename Fr _ _ _ _ => F3
    rename News _ _ _ _ => N3
    have hpick := hi.pick (some (i : Int)) none (some 6)
    refine LSm.sum_ints F3 N3 (by rfl) (News.isList N3 (.head _)) hpick fun h4 tk4 t4 F4 N4 => ?_
    k_steps
    have hb := Int.fmod_nonneg_of_pos (o + (pickNums ns (some (i : Int)) none (some 6)).sum) (show (0 : Int) < 10 ^ Int.toNat 6 by decide)
    have hb2 := Int.fmod_lt_of_pos (o + (pickNums ns (some (i : Int)) none (some 6)).sum) (show (0 : Int) < 10 ^ Int.toNat 6 by decide)
    generalize (o + (pickNums ns (some (i : Int)) none (some 6)).sum).fmod (10 ^ Int.toNat 6) = r at hb hb2 ⊢
    rw [show (10 : Int) ^ Int.toNat 6 = 1000000 by decide] at hb2
    obtain ⟨r, rfl⟩ := Int.eq_ofNat_of_zero_le hb
    refine ⟨_, _, rfl, F4, fun p hp => N4 p (.tail _ hp), nn ++ [r], by rw [natL, List.map_append]; exact IntsAre.append hn1 (.cons _ _ .nil), fun x hx => ?_, by rw [List.length_append, hn3]; rfl⟩
    rcases List.mem_append.mp hx with hx | hx
    · exact hn2 x hx
    · rw [List.mem_singleton.mp hx]; omega
end Wr50
end
section
set_option maxRecDepth 100000
set_option maxHeartbeats 4000000
namespace Wr50
open PySem PySem.W PySem.Calls PyProof.Rows
theorem news_ne {g h : Heap} {L : Addr} {nw : List (Addr × Obj)} (N : News g L h nw) {a b : Addr} {o o' : Obj} (hp : (a, o) ∈ nw) (hq : (b, o') ∈ nw) (hd : o.data ≠ o'.data) : a ≠ b := by
  rintro rfl
  have e1 := (N _ hp).1
  rw [(N _ hq).1] at e1
  exact hd (congrArg Obj.data (Option.some.inj e1)).symm
theorem cell_ne {g h : Heap} {L : Addr} {nw : List (Addr × Obj)} (N : News g L h nw) {a d : Addr} {arr : Array Value} {n : Nat} {o : Obj} {v : Option Value} (hp : (a, W.listOf arr n) ∈ nw) (hq : (d, o) ∈ nw) (ho : o.data = .cell v) : a ≠ d :=
  news_ne N hp hq (by rw [ho]; exact fun e => nomatch e)
theorem strs_one {ys : List Value} {l : List PySem.Str} {x : PySem.Str} {t : Tok} (h : StrsAre ys l) : StrsAre (ys ++ [.str x t]) (l ++ [x]) := StrsAre.append' h (.cons _ _ .nil)
theorem take_succ_get {α : Type} {l : List α} {i : Nat} {x : α} (h : l[i]? = some x) : l.take (i + 1) = l.take i ++ [x] := by
  rw [List.take_add_one, h]; rfl
@[reducible] noncomputable def q1 : { l : Stmt // l = b26.1.getD 1 st0 } := by
  apply cap
  conv => rhs; whnf
theorem law_1 : ∀ (w : World) (nn : List Nat) (_ : nn.length = 6) (_ : ∀ x ∈ nn, x < 1000000) (dp un : Nat) (gd : Option (List Code)) (frs : List Env) (base g : Heap) (mean : ExcName → Option Value) (mg mb : PySem.Str → Option Value)
   (_ : Below (ar dp un gd frs) base frs g) (_ : (KF w.params).In g) (_ : Top qv lo mean mg mb g) (_ : dp + 10 < recursionLimit) (_ : un + 200 < cLine)
   (L : Addr) (na : Addr) (nvs : List Value) (n : Nat) (c2 c3 c4 c5 c6 : Obj) (v3 : Option Value) (_ : c3.data = .cell v3) (_ : IntsAre nvs (natL nn)) (s : Shared) (E : Value → Shared → Prop) (m : PySem.Str → Option Value) (_ : m (Str.ofString "numbers") = some (.ref na))
   (_ : Fr g L s.heap m) (_ : News g L s.heap [(na, W.listOf nvs.toArray n), (L + 1 + 1, c2), (L + 1 + 1 + 1, c3), (L + 1 + 1 + 1 + 1, c4), (L + 1 + 1 + 1 + 1 + 1, c5), (L + 1 + 1 + 1 + 1 + 1 + 1, c6)])
   (_ : PassesOwn (model PySem.Challenge.rw_wr0050_01.prog w) ((ar dp un gd frs).deeper (env26 L)) (env26 L) E),
   wpAny (model PySem.Challenge.rw_wr0050_01.prog w) ((ar dp un gd frs).deeper (env26 L)) (exec q1.1 (env26 L))
       (TurnW s g L m [] (fun m' nw' => ∃ oa ovs k c3', c3'.data = .cell (some (.ref oa)) ∧ StrsAre ovs (((nn.take 4).map ordN).map stL) ∧ ∀ p ∈ [(na, W.listOf nvs.toArray n), (oa, W.listOf ovs.toArray k), (L + 1 + 1 + 1, c3'), (L + 1 + 1, c2), (L + 1 + 1 + 1 + 1, c4), (L + 1 + 1 + 1 + 1 + 1, c5), (L + 1 + 1 + 1 + 1 + 1 + 1, c6)], p ∈ nw')) E s := by
  k_fill
  intro w nn hnl hnb dp un gd frs base g mean mg mb B X T hd hu L na nvs n c2 c3 c4 c5 c6 v3 hc3 hni s E m hmn F N hE
  refine hideQ ?_
  intro Q0 hQ0
  have hvl : nvs.length = 6 := by rw [hni.length, natL, List.length_map, hnl]
  k_with "eval ListComp" => refine hold ?_
  k_with "exec Assign cons ListComp nil" => refine hold ?_
  k_steps
  unfold Hold
  k_with_none
  rename Fr _ _ _ _ => F0
  rename News _ _ _ _ => N1
  have F1 := kst_self2 (ps := [(Str.ofString "numbers", .ref na)]) (fun p hp => by rw [List.mem_singleton.mp hp]; exact hmn) F0
  clear F0
  refine ListComp_any F1 (by with_unfolding_all rfl) (by rfl) (by decide) ?_
  k_with "pyIter ref" => refine hold ?_
  k_steps
  unfold Hold
  k_with_none
  rename Fr _ _ _ _ => F2
  rename News _ _ _ _ => N2
  rename IntsAre _ (List.take _ _) => hi2
  have hl2 := hi2.length
  rw [List.length_take, natL, List.length_map, hnl] at hl2
  refine comp_list (fun i ys => StrsAre ys (((nn.take i).map ordN).map stL)) (by rfl) (News.isList N2 (.head _)) (.inr ⟨_, .head _⟩) ?hsz (by decide) (by rfl) (by rfl) F2 N2 .nil ?fin ?step
  case hsz => rw [List.size_toArray, hl2]; simp only [sizeLine_eq]; decide
  case step =>
    intro i ys v hv hyl hJ I oI C oC D m₂ h tk E' hm2 hoC F3 N3 hoff
    rw [List.getElem?_toArray] at hv
    obtain ⟨x, t, rfl, hx⟩ := hi2.at i v hv
    rw [List.getElem?_take] at hx
    split at hx
    case isFalse => cases hx
    case isTrue hi4 =>
    rw [natL, List.getElem?_map] at hx
    obtain ⟨y, hy, rfl⟩ := Option.map_eq_some_iff.mp hx
    refine wpAny_tests_nil ?_
    simp only [if_true]
    k_with "call ref" => refine hold ?_
    k_steps
    unfold Hold
    k_with_none
    rename Fr _ _ _ _ => F4
    rename News _ _ _ _ => N4
    refine use (pc_order w y t) B F4 N4 X T rfl rfl (room1 hd (by decide)) (room3 hu (by decide)) trivial ?_
    rintro v h5 tk5 F5 N5 _ ⟨t5, rfl⟩
    refine ⟨_, _, rfl, F5, N5, ?_⟩
    rw [take_succ_get hy, List.map_append, List.map_append]
    exact strs_one hJ
  case fin =>
    intro g5 ys hys D h tk F3 N3 hoff
    rw [List.size_toArray, hl2] at hys
    dsimp only
    have hcm := cell_ne N3 (.tail _ (.tail _ (.head _))) (.tail _ (.tail _ (.tail _ (.tail _ (.head _))))) hc3
    have hcD := cell_ne N3 (.head _) (.tail _ (.tail _ (.tail _ (.tail _ (.head _))))) hc3
    refine storeX_C F3 (newsSub (nw := (L + 1 + 1 + 1, c3) :: [(D, LCg.lst ys), (na, W.listOf nvs.toArray n), (L + 1 + 1, c2), (L + 1 + 1 + 1 + 1, c4), (L + 1 + 1 + 1 + 1 + 1, c5), (L + 1 + 1 + 1 + 1 + 1 + 1, c6)]) N3 (by kst_in)) rfl (.head ?_) hc3 fun h9 o9 F9 N9 d9 => ?_
    · refine all1 ?_ (all1 ?_ (all1 ?_ (all1 ?_ (all1 ?_ (all1 ?_ all0)))))
      · exact hcD
      · exact hcm
      · exact Nat.ne_of_lt (Nat.lt_succ_self _)
      · exact Nat.ne_of_gt (Nat.lt_succ_self _)
      · exact Nat.ne_of_gt (Nat.lt_succ_of_lt (Nat.lt_succ_self _))
      · exact Nat.ne_of_gt (Nat.lt_succ_of_lt (Nat.lt_succ_of_lt (Nat.lt_succ_self _)))
    · refine hQ0 _ _ ⟨_, _, _, _, rfl, rfl, F9, N9, fun z hz => kstB_self (fun p hp => by rw [List.mem_singleton.mp hp]; exact hmn), D, ys, ys.length, o9, d9, hys, by kst_in⟩
end Wr50
end
section
set_option maxRecDepth 100000
set_option maxHeartbeats 4000000
namespace Wr50
open PySem PySem.W PySem.Calls PyProof.Rows
theorem name_off {m : PySem.Str → Option Value} {ps : List (PySem.Str × Value)} {x z : PySem.Str} {v : Option Value} (hz : [x].contains z = false) (h : ∀ p ∈ ps, m p.1 = some p.2) : (if z = x then v else kstB m ps z) = m z := by
  have hz' : z ≠ x := fun e => by rw [e] at hz; simp at hz
  rw [if_neg hz']; exact kstB_self h
theorem natL_getD (l : List Nat) (i : Nat) : (natL l).getD i 0 = ((l.getD i 0 : Nat) : Int) := by
  rw [List.getD_eq_getElem?_getD, List.getD_eq_getElem?_getD, natL, List.getElem?_map]
  cases l[i]? <;> rfl
theorem fdivN (a b : Nat) : (a : Int).fdiv (b : Int) = ((a / b : Nat) : Int) := (Int.ofNat_fdiv a b).symm
@[reducible] noncomputable def q2 : { l : Stmt // l = b26.1.getD 2 st0 } := by
  apply cap
  conv => rhs; whnf
theorem law_2 : ∀ (w : World) (nn : List Nat) (_ : nn.length = 6) (dp un : Nat) (gd : Option (List Code)) (frs : List Env) (base g : Heap) (mean : ExcName → Option Value) (mg mb : PySem.Str → Option Value)
   (_ : Below (ar dp un gd frs) base frs g) (_ : (KF w.params).In g) (_ : Top qv lo mean mg mb g) (_ : dp + 10 < recursionLimit) (_ : un + 200 < cLine)
   (L : Addr) (na oa : Addr) (nvs ovs : List Value) (n k : Nat) (os : List PySem.Str) (_ : os.length = 4) (c2 c3 c4 c5 c6 : Obj) (_ : c3.data = .cell (some (.ref oa))) (_ : IntsAre nvs (natL nn)) (_ : StrsAre ovs os) (s : Shared) (E : Value → Shared → Prop) (m : PySem.Str → Option Value) (_ : m (Str.ofString "numbers") = some (.ref na))
   (_ : Fr g L s.heap m) (_ : News g L s.heap [(na, W.listOf nvs.toArray n), (oa, W.listOf ovs.toArray k), (L + 1 + 1, c2), (L + 1 + 1 + 1, c3), (L + 1 + 1 + 1 + 1, c4), (L + 1 + 1 + 1 + 1 + 1, c5), (L + 1 + 1 + 1 + 1 + 1 + 1, c6)])
   (_ : PassesOwn (model PySem.Challenge.rw_wr0050_01.prog w) ((ar dp un gd frs).deeper (env26 L)) (env26 L) E),
   wpAny (model PySem.Challenge.rw_wr0050_01.prog w) ((ar dp un gd frs).deeper (env26 L)) (exec q2.1 (env26 L))
       (TurnW s g L m [Str.ofString "meant"] (fun m' nw' => ∃ ma mvs j, m' (Str.ofString "meant") = some (.ref ma) ∧ StrsAre mvs (os ++ [stL (ordN (nn.getD 5 0 / 4))]) ∧ ∀ p ∈ [(ma, W.listOf mvs.toArray j), (na, W.listOf nvs.toArray n), (oa, W.listOf ovs.toArray k), (L + 1 + 1, c2), (L + 1 + 1 + 1, c3), (L + 1 + 1 + 1 + 1, c4), (L + 1 + 1 + 1 + 1 + 1, c5), (L + 1 + 1 + 1 + 1 + 1 + 1, c6)], p ∈ nw')) E s := by
  k_fill
  intro w nn hnl dp un gd frs base g mean mg mb B X T hd hu L na oa nvs ovs n k os hos c2 c3 c4 c5 c6 hc3 hni hso s E m hmn F N hE
  refine hideQ ?_
  intro Q0 hQ0
  have FF := kst_self2 (ps := [(Str.ofString "numbers", .ref na)]) (fun p hp => by rw [List.mem_singleton.mp hp]; exact hmn) F
  clear F
  have hvl : nvs.length = 6 := by rw [hni.length, natL, List.length_map, hnl]
  have hol : ovs.length = 4 := by rw [hso.length, hos]
  k_with "call ref" => refine hold ?_
  k_steps
  unfold Hold
  k_with_none
  rename Fr _ _ _ _ => F1
  rename News _ _ _ _ => N1
  rw [natL_getD, show ((nn.getD (Int.toNat 5) 0 : Nat) : Int).fdiv 4 = ((nn.getD 5 0 / 4 : Nat) : Int) from fdivN _ 4]
  refine use (pc_order w _ _) B F1 N1 X T rfl rfl (room1 hd (by decide)) (room3 hu (by decide)) trivial ?_
  rintro v h5 tk5 F5 N5 _ ⟨t5, rfl⟩
  k_steps
  rename Fr _ _ _ _ => F6
  rename News _ _ _ _ => N6
  rename StrsAre ovs os => hso
  refine hQ0 _ _ ⟨_, _, _, _, rfl, rfl, F6, newsSub (nw := [(_, W.listOf (ovs ++ [Value.str (stL (ordN (nn.getD 5 0 / 4))) t5]).toArray 0), (na, W.listOf nvs.toArray n), (oa, W.listOf ovs.toArray k), (L + 1 + 1, c2), (L + 1 + 1 + 1, c3), (L + 1 + 1 + 1 + 1, c4), (L + 1 + 1 + 1 + 1 + 1, c5), (L + 1 + 1 + 1 + 1 + 1 + 1, c6)]) N6 (by kst_in), fun z hz => ?_, _, _, _, if_pos rfl, strs_one hso, fun p hp => hp⟩
  exact name_off hz (fun p hp => by rw [List.mem_singleton.mp hp]; exact hmn)
end Wr50
end
section
set_option maxRecDepth 100000
set_option maxHeartbeats 4000000
namespace Wr50
open PySem PySem.W PySem.Calls PyProof.Rows
theorem natL_fdiv (b : Nat) : ∀ l : List Nat, (natL l).map (fun k : Int => k.fdiv (b : Int)) = natL (l.map (· / b))
  | [] => rfl
  | a :: l => by
    show (Int.ofNat a).fdiv (b : Int) :: (natL l).map _ = Int.ofNat (a / b) :: natL (l.map (· / b))
    rw [natL_fdiv b l]
    exact congrArg (· :: _) (fdivN a b)
theorem natL_dress (nn : List Nat) : List.map (fun k' : Int => k'.fdiv 24) (List.take 4 (natL nn)) ++ [((natL nn).getD (Int.toNat 5) 0).fdiv 96] = natL ((nn.take 4).map (· / 24) ++ [nn.getD 5 0 / 96]) := by
  rw [natL_getD, show natL ((nn.take 4).map (· / 24) ++ [nn.getD 5 0 / 96]) = natL ((nn.take 4).map (· / 24)) ++ [((nn.getD 5 0 / 96 : Nat) : Int)] from List.map_append, ← natL_fdiv 24, show natL (nn.take 4) = (natL nn).take 4 from (List.map_take ..)]
  exact congrArg (_ ++ [·]) (fdivN _ 96)
@[reducible] noncomputable def q3 : { l : Stmt // l = b26.1.getD 3 st0 } := by
  apply cap
  conv => rhs; whnf
theorem law_3 : ∀ (w : World) (nn : List Nat) (_ : nn.length = 6) (dp un : Nat) (gd : Option (List Code)) (frs : List Env) (base g : Heap) (mean : ExcName → Option Value) (mg mb : PySem.Str → Option Value)
   (_ : Below (ar dp un gd frs) base frs g) (_ : (KF w.params).In g) (_ : Top qv lo mean mg mb g) (_ : dp + 10 < recursionLimit) (_ : un + 200 < cLine)
   (L : Addr) (na oa ma : Addr) (nvs ovs mvs : List Value) (n k j : Nat) (c2 c3 c4 c5 c6 : Obj) (_ : IntsAre nvs (natL nn)) (s : Shared) (E : Value → Shared → Prop) (m : PySem.Str → Option Value) (_ : m (Str.ofString "numbers") = some (.ref na))
   (_ : Fr g L s.heap m) (_ : News g L s.heap [(ma, W.listOf mvs.toArray j), (na, W.listOf nvs.toArray n), (oa, W.listOf ovs.toArray k), (L + 1 + 1, c2), (L + 1 + 1 + 1, c3), (L + 1 + 1 + 1 + 1, c4), (L + 1 + 1 + 1 + 1 + 1, c5), (L + 1 + 1 + 1 + 1 + 1 + 1, c6)])
   (_ : PassesOwn (model PySem.Challenge.rw_wr0050_01.prog w) ((ar dp un gd frs).deeper (env26 L)) (env26 L) E),
   wpAny (model PySem.Challenge.rw_wr0050_01.prog w) ((ar dp un gd frs).deeper (env26 L)) (exec q3.1 (env26 L))
       (TurnW s g L m [Str.ofString "dress"] (fun m' nw' => ∃ da dvs j9, m' (Str.ofString "dress") = some (.ref da) ∧ IntsAre dvs (natL ((nn.take 4).map (· / 24) ++ [nn.getD 5 0 / 96])) ∧ ∀ p ∈ [(da, W.listOf dvs.toArray j9), (ma, W.listOf mvs.toArray j), (na, W.listOf nvs.toArray n), (oa, W.listOf ovs.toArray k), (L + 1 + 1, c2), (L + 1 + 1 + 1, c3), (L + 1 + 1 + 1 + 1, c4), (L + 1 + 1 + 1 + 1 + 1, c5), (L + 1 + 1 + 1 + 1 + 1 + 1, c6)], p ∈ nw')) E s := by
  k_fill
  intro w nn hnl dp un gd frs base g mean mg mb B X T hd hu L na oa ma nvs ovs mvs n k j c2 c3 c4 c5 c6 hni s E m hmn F N hE
  refine hideQ ?_
  intro Q0 hQ0
  have FF := kst_self2 (ps := [(Str.ofString "numbers", .ref na)]) (fun p hp => by rw [List.mem_singleton.mp hp]; exact hmn) F
  clear F
  have hvl : nvs.length = 6 := by rw [hni.length, natL, List.length_map, hnl]
  k_steps
  rename Fr _ _ _ _ => F6
  rename News _ _ _ _ => N6
  rename IntsAre _ (List.map _ (List.take _ _) ++ _) => hi6
  rename_i da dvs _ _ _
  rw [natL_dress] at hi6
  refine hQ0 _ _ ⟨_, _, _, _, rfl, rfl, F6, newsSub (nw := [(_, W.listOf _ 0), (ma, W.listOf mvs.toArray j), (na, W.listOf nvs.toArray n), (oa, W.listOf ovs.toArray k), (L + 1 + 1, c2), (L + 1 + 1 + 1, c3), (L + 1 + 1 + 1 + 1, c4), (L + 1 + 1 + 1 + 1 + 1, c5), (L + 1 + 1 + 1 + 1 + 1 + 1, c6)]) N6 (by kst_in), fun z hz => name_off hz (fun p hp => by rw [List.mem_singleton.mp hp]; exact hmn), _, _, _, if_pos rfl, hi6, fun p hp => hp⟩
end Wr50
end
section
set_option maxRecDepth 100000
set_option maxHeartbeats 4000000
namespace Wr50
open PySem PySem.W PySem.Calls PyProof.Rows
@[reducible] noncomputable def fb26 : { l : List Stmt // l = forBody (b26.1.getD 5 st0) } := by
  apply cap
  conv => rhs; whnf
@[reducible] noncomputable def h3 : { l : Stmt // l = fb26.1.getD 3 st0 } := by
  apply cap
  conv => rhs; whnf
/-- off the cells behind the first -/
noncomputable abbrev CellsOff (L a : Addr) : Prop := (@Ne Nat a (L + 1 + 1)) ∧ (@Ne Nat a (L + 1 + 1 + 1)) ∧ (@Ne Nat a (L + 1 + 1 + 1 + 1)) ∧ (@Ne Nat a (L + 1 + 1 + 1 + 1 + 1)) ∧ (@Ne Nat a (L + 1 + 1 + 1 + 1 + 1 + 1))
theorem append_led {prog : Program} {w : World} {A : Around} {E : Value → Shared → Prop} {s : Shared} {h₀ : Heap} {L : Addr} {m : PySem.Str → Option Value} {ha : Addr} {arr : Array Value} {n : Nat} {x : Value} {rest : List (Addr × Obj)} {Q : Value → Shared → Prop} (F : Fr h₀ L s.heap m) (N : News h₀ L s.heap ((ha, W.listOf arr n) :: rest)) (hne : ∀ p ∈ rest, p.1 ≠ ha) (hsz : arr.size ≤ 1000)
    (h : ∀ h', Fr h₀ L h' m → News h₀ L h' ((ha, W.listOf (arr.push x) (n + 1)) :: rest) → Q .none { s with heap := h' }) : wpAny (model prog w) A (call (.builtin "list.append") [.ref ha, x]) Q E s := by
  have z := N _ (.head _)
  refine append_at (hsz := Nat.le_trans hsz (by simp only [sizeLine_eq]; decide)) z.1 fun h' hs' hD' => h h' (F.change hs' z.2.1 z.2.2) fun p hp => ?_
  rcases List.mem_cons.mp hp with rfl | hp
  · exact ⟨hD', z.2⟩
  · exact ⟨hs'.extBut _ _ (hne p hp) (N p (.tail _ hp)).1, (N p (.tail _ hp)).2⟩
noncomputable def b3L (c : Nat) : List Nat := (b3of c).cps.toList
theorem b3L_is (c : Nat) : b3of c = stL (b3L c) := by
  show b3of c = ⟨(b3of c).cps.toList.toArray⟩
  rw [Array.toArray_toList]
noncomputable def keep (c : Nat) : Bool := c != 34 && !isB1 (c : Int)
noncomputable def decP (nm : List Nat) : List (List Nat) := (nm.filter keep).map b3L
theorem decP_one (l : List Nat) (c : Nat) : decP (l ++ [c]) = decP l ++ (if keep c = true then [b3L c] else []) := by
  unfold decP
  rw [List.filter_append, List.map_append]
  congr 1
  by_cases h : keep c = true
  · rw [if_pos h]; simp only [List.filter_cons, h, if_true, List.filter_nil, List.map_cons, List.map_nil]
  · rw [if_neg h]; simp only [List.filter_cons, h, if_false, List.filter_nil, List.map_nil, Bool.false_eq_true]
theorem st1_quote (c : Nat) : (st1 c != Str.ofString "\"") = (c != 34) := by
  by_cases h : c = 34
  · subst h; decide
  · rw [show (c != 34) = true by simpa using h]
    refine bne_iff_ne.mpr fun e => h ?_
    have e2 : (#[c] : Array Nat) = #[34] := congrArg Str.cps e
    simpa using e2
theorem joinS_sum : ∀ l : List (List Nat), (joinS [] l).length = ((l.map stL).map (·.length)).sum
  | [] => rfl
  | [p] => by show p.length = p.toArray.size + 0; simp
  | p :: q :: r => by
    have h := joinS_sum (q :: r)
    have e : (stL p).length = p.length := by show p.toArray.size = _; simp
    rw [joinS, List.length_append, List.length_append, h]
    simp only [List.map_cons, List.sum_cons, List.length_nil, e]
    omega
noncomputable def decL (nm : List Nat) : List Nat := joinS [] (decP nm)
theorem hear_one : ∀ (w : World) (nm : List Nat) (_ : nm.length ≤ 16) (_ : (decL nm).length ≤ 4) (told : Tok) (dp un : Nat) (gd : Option (List Code)) (frs : List Env) (base g : Heap) (mean : ExcName → Option Value) (mg mb : PySem.Str → Option Value)
   (_ : Below (ar dp un gd frs) base frs g) (_ : (KF w.params).In g) (_ : Top qv lo mean mg mb g) (_ : dp + 10 < recursionLimit) (_ : un + 200 < cLine)
   (L : Addr) (it ha na oa ma da : Addr) (io : Obj) (hvs nvs ovs mvs dvs : List Value) (hn n k j j9 : Nat) (c2 c3 c4 c5 c6 : Obj) (_ : hvs.length ≤ 4) (_ : c4.data = .cell (some (.ref ha))) (_ : (@Ne Nat ha it) ∧ (@Ne Nat ha da) ∧ (@Ne Nat ha ma) ∧ (@Ne Nat ha na) ∧ (@Ne Nat ha oa)) (_ : CellsOff L ha) (s : Shared) (E : Value → Shared → Prop) (m : PySem.Str → Option Value) (_ : m (Str.ofString "told") = some (.str (stL nm) told))
   (_ : Fr g L s.heap m) (_ : News g L s.heap [(it, io), (ha, W.listOf hvs.toArray hn), (da, W.listOf dvs.toArray j9), (ma, W.listOf mvs.toArray j), (na, W.listOf nvs.toArray n), (oa, W.listOf ovs.toArray k), (L + 1 + 1, c2), (L + 1 + 1 + 1, c3), (L + 1 + 1 + 1 + 1, c4), (L + 1 + 1 + 1 + 1 + 1, c5), (L + 1 + 1 + 1 + 1 + 1 + 1, c6)])
   (_ : PassesOwn (model PySem.Challenge.rw_wr0050_01.prog w) ((ar dp un gd frs).deeper (env26 L)) (env26 L) E),
   wpAny (model PySem.Challenge.rw_wr0050_01.prog w) ((ar dp un gd frs).deeper (env26 L)) (exec h3.1 (env26 L))
       (TurnW s g L m [] (fun m' nw' => ∃ t hn', ∀ p ∈ [(it, io), (ha, W.listOf (hvs ++ [Value.str (stL (decL nm)) t]).toArray hn'), (da, W.listOf dvs.toArray j9), (ma, W.listOf mvs.toArray j), (na, W.listOf nvs.toArray n), (oa, W.listOf ovs.toArray k), (L + 1 + 1, c2), (L + 1 + 1 + 1, c3), (L + 1 + 1 + 1 + 1, c4), (L + 1 + 1 + 1 + 1 + 1, c5), (L + 1 + 1 + 1 + 1 + 1 + 1, c6)], p ∈ nw')) E s := by
  k_fill
  intro w nm hnm hdec told dp un gd frs base g mean mg mb B X T hd hu L it ha na oa ma da io hvs nvs ovs mvs dvs hn n k j j9 c2 c3 c4 c5 c6 hhl hc4 hap hg s E m hmt F N hE
  refine hideQ ?_
  intro Q0 hQ0
  have FF := kst_self2 (ps := [(Str.ofString "told", .str (stL nm) told)]) (fun p hp => by rw [List.mem_singleton.mp hp]; exact hmt) F
  clear F
  k_with "eval ListComp" => refine hold ?_
  k_steps
  unfold Hold
  k_with_none
  rename Fr _ _ _ _ => F1
  rename News _ _ _ _ => N1
  refine ListComp_any F1 (by with_unfolding_all rfl) (by rfl) (by decide) ?_
  k_with "pyIter str" => refine hold ?_
  k_steps
  unfold Hold
  k_with_none
  rename Fr _ _ _ _ => F2
  rename News _ _ _ _ => N2
  refine comp_str (fun i ys => StrsAre ys ((decP (nm.take i)).map stL)) (by rfl) ?hsz (by decide) (by rfl) (by rfl) F2 N2 .nil ?fin ?step
  case hsz =>
    rw [List.size_toArray]; simp only [sizeLine_eq]; omega
  case step =>
    intro i ys c u hc hyl hJ I oI C oC D m₂ h tk E' hm2 hoC F3 N3 hoff
    rw [List.getElem?_toArray] at hc
    refine wpAny_tests_one ?_
    k_with "call ref" => refine hold ?_
    k_steps
    · unfold Hold
      k_with_none
      rename Fr _ _ _ _ => F4
      rename News _ _ _ _ => N4
      rename (_ != _) = true => hq
      rw [st1_quote] at hq
      refine use (pc_b1 w c u) B F4 N4 X T rfl rfl (room1 hd (by decide)) (room3 hu (by decide)) trivial ?_
      rintro v h5 tk5 F5 N5 _ rfl
      cases hb : isB1 (c : Int) with
      | true =>
        k_steps
        refine ⟨_, _, rfl, by assumption, by assumption, ?_⟩
        dsimp only
        rw [take_succ_get hc, decP_one, if_neg (by simp [keep, hb]), List.append_nil]
        exact hJ
      | false =>
        k_with "call ref" => refine hold ?_
        k_steps
        unfold Hold
        k_with_none
        rename Fr _ _ _ _ => F6
        rename News _ _ _ _ => N6
        refine use (pc_b3 w c u) B F6 N6 X T rfl rfl (room1 hd (by decide)) (room3 hu (by decide)) trivial ?_
        rintro v h7 tk7 F7 N7 _ ⟨t7, rfl⟩
        refine ⟨_, _, rfl, F7, N7, ?_⟩
        dsimp only
        rw [take_succ_get hc, decP_one, if_pos (by simp [keep, hb, hq]), List.map_append, b3L_is]
        exact strs_one hJ
    · rename (_ != _) = false => hq
      rw [st1_quote] at hq
      refine ⟨_, _, rfl, by assumption, by assumption, ?_⟩
      dsimp only
      rw [take_succ_get hc, decP_one, if_neg (by simp [keep, hq]), List.append_nil]
      exact hJ
  case fin =>
    intro g5 ys hys D h tk F3 N3 hoff
    rw [List.size_toArray, List.take_length] at hys
    dsimp only
    k_with "call builtin:str.join" => refine hold ?_
    k_steps
    unfold Hold
    k_with_none
    refine join_list (x := Str.ofString "") (News.isList N3 (.head _)) hys ?_ ?_
    · have e0 : (Str.ofString "").length = 0 := rfl
      rw [e0, ← joinS_sum]
      have : (joinS [] (decP nm)).length ≤ 4 := hdec
      omega
    intro t5 k5
    rw [show Str.ofString "" = stL [] from rfl, join_stL]
    k_with "call builtin:list.append" => refine hold ?_
    k_steps
    unfold Hold
    k_with_none
    refine append_led (ha := ha) (arr := hvs.toArray) (n := hn) (rest := [(it, io), (da, W.listOf dvs.toArray j9), (ma, W.listOf mvs.toArray j), (na, W.listOf nvs.toArray n), (oa, W.listOf ovs.toArray k), (L + 1 + 1, c2), (L + 1 + 1 + 1, c3), (L + 1 + 1 + 1 + 1, c4), (L + 1 + 1 + 1 + 1 + 1, c5), (L + 1 + 1 + 1 + 1 + 1 + 1, c6)]) F3 (newsSub N3 (by kst_in)) ?_ ?_ fun h8 F8 N8 => ?_
    · obtain ⟨e1, e2, e3, e4, e5⟩ := hap
      refine all1 ?_ (all1 ?_ (all1 ?_ (all1 ?_ (all1 ?_ (all1 ?_ (all1 ?_ (all1 ?_ (all1 ?_ (all1 ?_ all0)))))))))
      · exact Ne.symm e1
      · exact Ne.symm e2
      · exact Ne.symm e3
      · exact Ne.symm e4
      · exact Ne.symm e5
      · exact Ne.symm hg.1
      · exact Ne.symm hg.2.1
      · exact Ne.symm hg.2.2.1
      · exact Ne.symm hg.2.2.2.1
      · exact Ne.symm hg.2.2.2.2
    · rw [List.size_toArray]; exact Nat.le_trans hhl (by decide)
    · refine hQ0 _ _ ⟨_, _, _, _, rfl, rfl, F8, N8, fun z hz => kstB_self (fun p hp => by rw [List.mem_singleton.mp hp]; exact hmt), t5, hn + 1, ?_⟩
      rw [show (hvs ++ [Value.str (stL (decL nm)) t5]).toArray = hvs.toArray.push (Value.str (stL (joinS [] (decP nm))) t5) by simp [decL]]
      kst_in
end Wr50
end
section
set_option maxRecDepth 100000
set_option maxHeartbeats 4000000
namespace Wr50
open PySem PySem.W PySem.Calls PyProof.Rows
theorem perms4_len : ∀ o ∈ perms4, o.length ≤ 4 := by decide
theorem dTail_ok (m : Nat) : (dTail m).length ≤ 5 ∧ (dTail m).head? ≠ some 34 := by
  unfold dTail; split <;> decide
theorem hear_turn : ∀ (w : World) (os : List (List Nat)) (ds : List Nat) (_ : os.length = 5) (_ : ds.length = 5) (_ : ∀ o ∈ os, o ∈ perms4) (_ : ∀ d ∈ ds, d < 1000000) (_ : ∀ o ∈ os, ∀ d, decL (dName o d) = o) (i : Nat) (_ : i < 5) (dp un : Nat) (gd : Option (List Code)) (frs : List Env) (base g : Heap) (mean : ExcName → Option Value) (mg mb : PySem.Str → Option Value)
   (_ : Below (ar dp un gd frs) base frs g) (_ : (KF w.params).In g) (_ : Top qv lo mean mg mb g) (_ : dp + 10 < recursionLimit) (_ : un + 200 < cLine)
   (L : Addr) (it ha na oa ma da : Addr) (io : Obj) (hvs nvs ovs mvs dvs : List Value) (hn n k j j9 : Nat) (c2 c3 c4 c5 c6 : Obj) (tk2 : Tok) (_ : hvs.length ≤ 4) (_ : c2.data = .cell (some (.int (i : Nat) tk2))) (_ : c4.data = .cell (some (.ref ha))) (_ : (@Ne Nat ha it) ∧ (@Ne Nat ha da) ∧ (@Ne Nat ha ma) ∧ (@Ne Nat ha na) ∧ (@Ne Nat ha oa)) (_ : CellsOff L ha) (_ : StrsAre mvs (os.map stL)) (_ : IntsAre dvs (natL ds)) (s : Shared) (E : Value → Shared → Prop) (m : PySem.Str → Option Value) (_ : m (Str.ofString "meant") = some (.ref ma)) (_ : m (Str.ofString "dress") = some (.ref da))
   (_ : Fr g L s.heap m) (_ : News g L s.heap [(it, io), (ha, W.listOf hvs.toArray hn), (da, W.listOf dvs.toArray j9), (ma, W.listOf mvs.toArray j), (na, W.listOf nvs.toArray n), (oa, W.listOf ovs.toArray k), (L + 1 + 1, c2), (L + 1 + 1 + 1, c3), (L + 1 + 1 + 1 + 1, c4), (L + 1 + 1 + 1 + 1 + 1, c5), (L + 1 + 1 + 1 + 1 + 1 + 1, c6)])
   (_ : PassesOwn (model PySem.Challenge.rw_wr0050_01.prog w) ((ar dp un gd frs).deeper (env26 L)) (env26 L) E),
   wpAny (model PySem.Challenge.rw_wr0050_01.prog w) ((ar dp un gd frs).deeper (env26 L)) (execs fb26.1 (env26 L))
       (TurnW s g L m [Str.ofString "name", Str.ofString "reply", Str.ofString "told"] (fun m' nw' => ∃ t hn', ∀ p ∈ [(it, io), (ha, W.listOf (hvs ++ [Value.str (stL (os.getD i [])) t]).toArray hn'), (da, W.listOf dvs.toArray j9), (ma, W.listOf mvs.toArray j), (na, W.listOf nvs.toArray n), (oa, W.listOf ovs.toArray k), (L + 1 + 1, c2), (L + 1 + 1 + 1, c3), (L + 1 + 1 + 1 + 1, c4), (L + 1 + 1 + 1 + 1 + 1, c5), (L + 1 + 1 + 1 + 1 + 1 + 1, c6)], p ∈ nw')) E s := by
  k_fill
  intro w os ds hol hdl hop hdb hdec i hi dp un gd frs base g mean mg mb B X T hd hu L it ha na oa ma da io hvs nvs ovs mvs dvs hn n k j j9 c2 c3 c4 c5 c6 tk2 hhl hc2 hc4 hap hg hms hds s E m hmm hmd F N hE
  refine hideQ ?_
  intro Q0 hQ0
  have hkk : ∀ p ∈ [(Str.ofString "meant", Value.ref ma), (Str.ofString "dress", Value.ref da)], m p.1 = some p.2 := fun p hp => by
    rcases List.mem_cons.mp hp with rfl | hp
    · exact hmm
    · rw [List.mem_singleton.mp hp]; exact hmd
  have FF := kst_self2 hkk F
  clear F
  have hml : mvs.length = 5 := by rw [hms.length, List.length_map, hol]
  have hdl2 : dvs.length = 5 := by rw [hds.length, natL, List.length_map, hdl]
  k_with "call ref" => refine hold ?_
  k_steps
  unfold Hold
  k_with_none
  rename Fr _ _ _ _ => F1
  rename News _ _ _ _ => N1
  have ho : os.getD i [] ∈ os := by rw [List.getD_eq_getElem?_getD, List.getElem?_eq_getElem (by omega)]; exact List.getElem_mem _
  have hd1 : ds.getD i 0 ∈ ds := by rw [List.getD_eq_getElem?_getD, List.getElem?_eq_getElem (by omega)]; exact List.getElem_mem _
  rw [natL_getD, Int.toNat_natCast, getD_stL (by omega)]
  refine use (pc_dress w (os.getD i []) (ds.getD i 0) _ _ (hdb _ hd1) (hop _ ho)) B F1 N1 X T rfl rfl (room1 hd (by decide)) (room3 hu (by decide)) trivial ?_
  rintro v h5 tk5 F5 N5 _ ⟨a5, t1, t2, rfl, hT5⟩

  have hnm := nameL (os.getD i []) (ds.getD i 0)
  have hde := hdec _ ho (ds.getD i 0)
  have hol4 : (os.getD i []).length ≤ 4 := perms4_len _ (hop _ ho)
  generalize dName (os.getD i []) (ds.getD i 0) = nm at hT5 hnm hde
  have hdt := dTail_ok (ds.getD i 0)
  generalize dTail (ds.getD i 0) = dt at hT5 hdt
  generalize os.getD i [] = o at hde hol4 hQ0 ⊢
  subst hde
  k_with "call ref" => refine hold ?_
  k_steps
  unfold Hold
  k_with_none
  rename Fr _ _ _ _ => F6
  rename News _ _ _ _ => N6
  refine use (pc_257 w nm dt t2 (by omega) hdt.2) B F6 N6 X T rfl rfl (room1 hd (by decide)) (room3 hu (by decide)) trivial ?_
  rintro v h7 tk7 F7 N7 _ ⟨t7, rfl⟩
  k_with "exec Expr" => refine hold ?_
  k_with "exec Expr Call" => refine hold ?_
  k_steps
  · rename (_ != _) = true => hx
    exact absurd hx (by simp)
  · unfold Hold
    k_with_none
    rename Fr _ _ _ _ => F8
    rename News _ _ _ _ => N8
    refine wpAny_mono (hear_one w nm hnm hol4 t7 dp un gd frs base g mean mg mb B X T hd hu L it ha na oa ma da io hvs nvs ovs mvs dvs hn n k j j9 c2 c3 c4 c5 c6 hhl hc4 hap hg ⟨_, _, _, _, _⟩ E _ (if_pos rfl) F8 N8 hE) (fun fl s9 q => ?_) fun _ _ x => x
    obtain ⟨h9, k9, m9, nw9, rfl, rfl, F9, N9, hs9, t9, hn9, hsub⟩ := q
    refine wpAny_execs_nil (hQ0 _ _ ⟨h9, k9, m9, nw9, rfl, rfl, F9, N9, fun z hz => ?_, t9, hn9, hsub⟩)
    refine (hs9 z rfl).trans ?_
    have hz1 : z ≠ Str.ofString "told" := fun e => by rw [e] at hz; revert hz; decide
    have hz2 : z ≠ Str.ofString "reply" := fun e => by rw [e] at hz; revert hz; decide
    have hz3 : z ≠ Str.ofString "name" := fun e => by rw [e] at hz; revert hz; decide
    dsimp only
    rw [if_neg hz1, if_neg hz2, if_neg hz3]
    exact kstB_self hkk
end Wr50
end
section
set_option maxRecDepth 100000
set_option maxHeartbeats 4000000
namespace Wr50
open PySem PySem.W PySem.Calls PyProof.Rows
@[reducible] noncomputable def q5 : { l : Stmt // l = b26.1.getD 5 st0 } := by
  apply cap
  conv => rhs; whnf
theorem hear_loop : ∀ (w : World) (os : List (List Nat)) (ds : List Nat) (_ : os.length = 5) (_ : ds.length = 5) (_ : ∀ o ∈ os, o ∈ perms4) (_ : ∀ d ∈ ds, d < 1000000) (_ : ∀ o ∈ os, ∀ d, decL (dName o d) = o) (dp un : Nat) (gd : Option (List Code)) (frs : List Env) (base g : Heap) (mean : ExcName → Option Value) (mg mb : PySem.Str → Option Value)
   (_ : Below (ar dp un gd frs) base frs g) (_ : (KF w.params).In g) (_ : Top qv lo mean mg mb g) (_ : dp + 10 < recursionLimit) (_ : un + 200 < cLine)
   (L : Addr) (ha na oa ma da : Addr) (nvs ovs mvs dvs : List Value) (hn n k j j9 : Nat) (c2 c3 c4 c5 c6 : Obj) (v2 : Option Value) (_ : c2.data = .cell v2) (_ : c4.data = .cell (some (.ref ha))) (_ : (@Ne Nat ha da) ∧ (@Ne Nat ha ma) ∧ (@Ne Nat ha na) ∧ (@Ne Nat ha oa)) (_ : CellsOff L ha) (_ : StrsAre mvs (os.map stL)) (_ : IntsAre dvs (natL ds)) (s : Shared) (E : Value → Shared → Prop) (m : PySem.Str → Option Value) (_ : m (Str.ofString "meant") = some (.ref ma)) (_ : m (Str.ofString "dress") = some (.ref da))
   (_ : Fr g L s.heap m) (_ : News g L s.heap [(ha, W.listOf #[] hn), (da, W.listOf dvs.toArray j9), (ma, W.listOf mvs.toArray j), (na, W.listOf nvs.toArray n), (oa, W.listOf ovs.toArray k), (L + 1 + 1, c2), (L + 1 + 1 + 1, c3), (L + 1 + 1 + 1 + 1, c4), (L + 1 + 1 + 1 + 1 + 1, c5), (L + 1 + 1 + 1 + 1 + 1 + 1, c6)])
   (_ : PassesOwn (model PySem.Challenge.rw_wr0050_01.prog w) ((ar dp un gd frs).deeper (env26 L)) (env26 L) E),
   wpAny (model PySem.Challenge.rw_wr0050_01.prog w) ((ar dp un gd frs).deeper (env26 L)) (exec q5.1 (env26 L))
       (TurnW s g L m [Str.ofString "name", Str.ofString "reply", Str.ofString "told"] (fun m' nw' => ∃ hvs' hn' c2', StrsAre hvs' (os.map stL) ∧ (∃ v, c2'.data = .cell v) ∧ ∀ p ∈ [(ha, W.listOf hvs'.toArray hn'), (da, W.listOf dvs.toArray j9), (ma, W.listOf mvs.toArray j), (na, W.listOf nvs.toArray n), (oa, W.listOf ovs.toArray k), (L + 1 + 1, c2'), (L + 1 + 1 + 1, c3), (L + 1 + 1 + 1 + 1, c4), (L + 1 + 1 + 1 + 1 + 1, c5), (L + 1 + 1 + 1 + 1 + 1 + 1, c6)], p ∈ nw')) E s := by
  k_fill
  intro w os ds hol hdl hop hdb hdec dp un gd frs base g mean mg mb B X T hd hu L ha na oa ma da nvs ovs mvs dvs hn n k j j9 c2 c3 c4 c5 c6 v2 hc2 hc4 hap hg hms hds s E m hmm hmd F N hE
  refine hideQ ?_
  intro Q0 hQ0
  have hkk : ∀ p ∈ [(Str.ofString "meant", Value.ref ma), (Str.ofString "dress", Value.ref da)], m p.1 = some p.2 := fun p hp => by
    rcases List.mem_cons.mp hp with rfl | hp
    · exact hmm
    · rw [List.mem_singleton.mp hp]; exact hmd
  refine wpAny_For ?_
  k_with "pyIter ref" => refine hold ?_
  k_steps
  unfold Hold
  k_with_none
  rename Fr _ _ _ _ => F1
  rename News _ _ _ _ => N1
  rename IsRange _ _ _ _ _ _ _ _ => hrg
  refine for_range (σ := List Value × Nat × Obj) (n := 5) 0 [ha, da, ma, na, oa, L + 1 + 1, L + 1 + 1 + 1, L + 1 + 1 + 1 + 1, L + 1 + 1 + 1 + 1 + 1, L + 1 + 1 + 1 + 1 + 1 + 1] (fun c => [(ha, W.listOf c.1.toArray c.2.1), (da, W.listOf dvs.toArray j9), (ma, W.listOf mvs.toArray j), (na, W.listOf nvs.toArray n), (oa, W.listOf ovs.toArray k), (L + 1 + 1, c.2.2), (L + 1 + 1 + 1, c3), (L + 1 + 1 + 1 + 1, c4), (L + 1 + 1 + 1 + 1 + 1, c5), (L + 1 + 1 + 1 + 1 + 1 + 1, c6)]) (fun _ => []) [Str.ofString "name", Str.ofString "reply", Str.ofString "told"]
    (fun i c => StrsAre c.1 ((os.take i).map stL) ∧ ∃ v, c.2.2.data = .cell v) ([], hn, c2) (by rfl) hrg (by decide) (Nat.zero_le _) F1 N1 (fun p hp => nomatch hp) ⟨.nil, v2, hc2⟩ ?_ ?_ ?_ ?_ hE
  · exact fun c => all1 (.head _) (all1 (.tail _ (.head _)) (all1 (.tail _ (.tail _ (.head _))) (all1 (.tail _ (.tail _ (.tail _ (.head _)))) (all1 (.tail _ (.tail _ (.tail _ (.tail _ (.head _))))) (all1 (.tail _ (.tail _ (.tail _ (.tail _ (.tail _ (.head _)))))) (all1 (.tail _ (.tail _ (.tail _ (.tail _ (.tail _ (.tail _ (.head _))))))) (all1 (.tail _ (.tail _ (.tail _ (.tail _ (.tail _ (.tail _ (.tail _ (.head _)))))))) (all1 (.tail _ (.tail _ (.tail _ (.tail _ (.tail _ (.tail _ (.tail _ (.tail _ (.head _))))))))) (all1 (.tail _ (.tail _ (.tail _ (.tail _ (.tail _ (.tail _ (.tail _ (.tail _ (.tail _ (.head _)))))))))) all0)))))))))
  · refine all1 ?_ (all1 ?_ (all1 ?_ (all1 ?_ (all1 ?_ (all1 ?_ (all1 ?_ (all1 ?_ (all1 ?_ (all1 ?_ all0)))))))))
    · exact ⟨_, .head _⟩
    · exact ⟨_, .tail _ (.head _)⟩
    · exact ⟨_, .tail _ (.tail _ (.head _))⟩
    · exact ⟨_, .tail _ (.tail _ (.tail _ (.head _)))⟩
    · exact ⟨_, .tail _ (.tail _ (.tail _ (.tail _ (.head _))))⟩
    · exact ⟨_, .tail _ (.tail _ (.tail _ (.tail _ (.tail _ (.head _)))))⟩
    · exact ⟨_, .tail _ (.tail _ (.tail _ (.tail _ (.tail _ (.tail _ (.head _))))))⟩
    · exact ⟨_, .tail _ (.tail _ (.tail _ (.tail _ (.tail _ (.tail _ (.tail _ (.head _)))))))⟩
    · exact ⟨_, .tail _ (.tail _ (.tail _ (.tail _ (.tail _ (.tail _ (.tail _ (.tail _ (.head _))))))))⟩
    · exact ⟨_, .tail _ (.tail _ (.tail _ (.tail _ (.tail _ (.tail _ (.tail _ (.tail _ (.tail _ (.head _)))))))))⟩
  · rintro i t ⟨hvs, hn1, c2'⟩ u h tk it io hi ⟨hvl, v2', hc2'⟩ _ hit F2 N2
    dsimp only at hvl hc2' N2 ⊢
    have hitk : (@Ne Nat it (L + 1 + 1)) := fun e => hit (by rw [e]; simp)
    have hith : (@Ne Nat ha it) := fun e => hit (by rw [← e]; exact .head _)
    have hhl : hvs.length ≤ 4 := by rw [hvl.length, List.length_map, List.length_take]; omega
    have hmc : (L + 1 + 1, c2') ∈ (it, io) :: [(ha, W.listOf hvs.toArray hn1), (da, W.listOf dvs.toArray j9), (ma, W.listOf mvs.toArray j), (na, W.listOf nvs.toArray n), (oa, W.listOf ovs.toArray k), (L + 1 + 1, c2'), (L + 1 + 1 + 1, c3), (L + 1 + 1 + 1 + 1, c4), (L + 1 + 1 + 1 + 1 + 1, c5), (L + 1 + 1 + 1 + 1 + 1 + 1, c6)] := (by repeat (first | exact List.mem_cons_self | apply List.mem_cons_of_mem))
    refine wpAny_assign_Name ?_
    refine storeX_C F2 (newsSub (nw := (L + 1 + 1, c2') :: [(it, io), (ha, W.listOf hvs.toArray hn1), (da, W.listOf dvs.toArray j9), (ma, W.listOf mvs.toArray j), (na, W.listOf nvs.toArray n), (oa, W.listOf ovs.toArray k), (L + 1 + 1 + 1, c3), (L + 1 + 1 + 1 + 1, c4), (L + 1 + 1 + 1 + 1 + 1, c5), (L + 1 + 1 + 1 + 1 + 1 + 1, c6)]) N2 (by kst_in)) rfl (.head ?_) hc2' fun h9 o9 F9 N9 d9 => ?_
    · refine all1 ?_ (all1 ?_ (all1 ?_ (all1 ?_ (all1 ?_ (all1 ?_ (all1 ?_ (all1 ?_ (all1 ?_ (all1 ?_ all0)))))))))
      · exact hitk
      · exact hg.1
      · exact cell_ne N2 (n := j9) (arr := dvs.toArray) (by repeat (first | exact List.mem_cons_self | apply List.mem_cons_of_mem)) hmc hc2'
      · exact cell_ne N2 (n := j) (arr := mvs.toArray) (by repeat (first | exact List.mem_cons_self | apply List.mem_cons_of_mem)) hmc hc2'
      · exact cell_ne N2 (n := n) (arr := nvs.toArray) (by repeat (first | exact List.mem_cons_self | apply List.mem_cons_of_mem)) hmc hc2'
      · exact cell_ne N2 (n := k) (arr := ovs.toArray) (by repeat (first | exact List.mem_cons_self | apply List.mem_cons_of_mem)) hmc hc2'
      · exact Nat.ne_of_gt (Nat.lt_succ_self _)
      · exact Nat.ne_of_gt (Nat.lt_succ_of_lt (Nat.lt_succ_self _))
      · exact Nat.ne_of_gt (Nat.lt_succ_of_lt (Nat.lt_succ_of_lt (Nat.lt_succ_self _)))
      · exact Nat.ne_of_gt (Nat.lt_succ_of_lt (Nat.lt_succ_of_lt (Nat.lt_succ_of_lt (Nat.lt_succ_self _))))
    show wpAny _ _ (execs fb26.1 (env26 L)) _ _ _
    refine wpAny_mono (hear_turn w os ds hol hdl hop hdb hdec i hi dp un gd frs base g mean mg mb B X T hd hu L it ha na oa ma da io hvs nvs ovs mvs dvs hn1 n k j j9 o9 c3 c4 c5 c6 t hhl d9 hc4 ⟨hith, hap⟩ hg hms hds ⟨_, _, _, _, _⟩ E _ ?n1 ?n2 F9 (newsSub N9 (by kst_in)) hE) (fun fl s9 q => ?_) fun _ _ x => x
    case n1 => exact hmm
    case n2 => exact hmd
    obtain ⟨h5, k5, m5, nw5, rfl, rfl, F5, N5, hs5, t5, hn5, hsub⟩ := q
    show ForEnd _ _ _ _ _ _ _ _ _ _
    have hio : os[i]? = some (os.getD i []) := by rw [List.getD_eq_getElem?_getD, List.getElem?_eq_getElem (by omega)]; rfl
    refine for_end (its := [(it, io)]) (hvs ++ [Value.str (stL (os.getD i [])) t5], hn5, o9) F5 N5 ?_ (fun p hp => nomatch hp) (fun z _ hz => (hs5 z hz).trans ?_) ⟨?_, _, d9⟩
    · intro p hp
      exact hsub p hp
    · show (if _ then _ else _) = _
      rw [hz]; rfl
    · rw [take_succ_get hio, List.map_append]
      exact strs_one hvl
  · rintro ⟨hvs, hn1, c2'⟩ u h tk ⟨hvl, v2', hc2'⟩ _ F2 N2
    rw [← hol, List.take_length] at hvl
    refine wpAny_execs_nil (hQ0 _ _ ⟨h, tk, _, _, rfl, rfl, F2, N2, fun z hz => ?_, hvs, hn1, c2', hvl, ⟨v2', hc2'⟩, fun p hp => hp⟩)
    show (if _ then _ else _) = _
    rw [hz]; rfl
end Wr50
end
section
set_option maxRecDepth 100000
set_option maxHeartbeats 4000000
namespace Wr50
open PySem PySem.W PySem.Calls PyProof.Rows
@[reducible] noncomputable def q4 : { l : Stmt // l = b26.1.getD 4 st0 } := by
  apply cap
  conv => rhs; whnf
@[reducible] noncomputable def q6 : { l : Stmt // l = b26.1.getD 6 st0 } := by
  apply cap
  conv => rhs; whnf
@[reducible] noncomputable def q7 : { l : Stmt // l = b26.1.getD 7 st0 } := by
  apply cap
  conv => rhs; whnf
@[reducible] noncomputable def q8 : { l : Stmt // l = b26.1.getD 8 st0 } := by
  apply cap
  conv => rhs; whnf
theorem law_4 : ∀ (w : World)  (dp un : Nat) (gd : Option (List Code)) (frs : List Env) (base g : Heap) (mean : ExcName → Option Value) (mg mb : PySem.Str → Option Value)
   (_ : Below (ar dp un gd frs) base frs g) (_ : (KF w.params).In g) (_ : Top qv lo mean mg mb g) (_ : dp + 10 < recursionLimit) (_ : un + 200 < cLine)
   (L : Addr) (na oa ma da : Addr) (nvs ovs mvs dvs : List Value) (n k j j9 : Nat) (c2 c3 c4 c5 c6 : Obj) (v4 : Option Value) (_ : c4.data = .cell v4) (s : Shared) (E : Value → Shared → Prop) (m : PySem.Str → Option Value) 
   (_ : Fr g L s.heap m) (_ : News g L s.heap [(da, W.listOf dvs.toArray j9), (ma, W.listOf mvs.toArray j), (na, W.listOf nvs.toArray n), (oa, W.listOf ovs.toArray k), (L + 1 + 1, c2), (L + 1 + 1 + 1, c3), (L + 1 + 1 + 1 + 1, c4), (L + 1 + 1 + 1 + 1 + 1, c5), (L + 1 + 1 + 1 + 1 + 1 + 1, c6)])
   (_ : PassesOwn (model PySem.Challenge.rw_wr0050_01.prog w) ((ar dp un gd frs).deeper (env26 L)) (env26 L) E),
   wpAny (model PySem.Challenge.rw_wr0050_01.prog w) ((ar dp un gd frs).deeper (env26 L)) (exec q4.1 (env26 L))
       (TurnW s g L m [] (fun m' nw' => ∃ ha hn c4', c4'.data = .cell (some (.ref ha)) ∧ ((@Ne Nat ha da) ∧ (@Ne Nat ha ma) ∧ (@Ne Nat ha na) ∧ (@Ne Nat ha oa)) ∧ CellsOff L ha ∧ ∀ p ∈ [(ha, W.listOf #[] hn), (da, W.listOf dvs.toArray j9), (ma, W.listOf mvs.toArray j), (na, W.listOf nvs.toArray n), (oa, W.listOf ovs.toArray k), (L + 1 + 1, c2), (L + 1 + 1 + 1, c3), (L + 1 + 1 + 1 + 1, c4'), (L + 1 + 1 + 1 + 1 + 1, c5), (L + 1 + 1 + 1 + 1 + 1 + 1, c6)], p ∈ nw')) E s := by
  k_fill
  intro w  dp un gd frs base g mean mg mb B X T hd hu L na oa ma da nvs ovs mvs dvs n k j j9 c2 c3 c4 c5 c6 v4 hc4 s E m  F N hE
  refine hideQ ?_
  intro Q0 hQ0
  k_with "storeName" => refine hold ?_
  k_steps
  unfold Hold
  k_with_none
  rename Fr _ _ _ _ => F1
  rename News _ _ _ _ => N1
  rename_i la _ hlt
  have hL4 : ∀ p ∈ [(la, W.listOf #[] 0), (da, W.listOf dvs.toArray j9), (ma, W.listOf mvs.toArray j), (na, W.listOf nvs.toArray n), (oa, W.listOf ovs.toArray k), (L + 1 + 1, c2), (L + 1 + 1 + 1, c3), (L + 1 + 1 + 1 + 1 + 1, c5), (L + 1 + 1 + 1 + 1 + 1 + 1, c6)], p.1 ≠ L + 1 + 1 + 1 + 1 := by
    refine all1 ?_ (all1 ?_ (all1 ?_ (all1 ?_ (all1 ?_ (all1 ?_ (all1 ?_ (all1 ?_ (all1 ?_ all0))))))))
    · exact cell_ne N1 (n := 0) (arr := #[]) (by repeat (first | exact List.mem_cons_self | apply List.mem_cons_of_mem)) (by repeat (first | exact List.mem_cons_self | apply List.mem_cons_of_mem)) hc4
    · exact cell_ne N1 (n := j9) (arr := dvs.toArray) (by repeat (first | exact List.mem_cons_self | apply List.mem_cons_of_mem)) (by repeat (first | exact List.mem_cons_self | apply List.mem_cons_of_mem)) hc4
    · exact cell_ne N1 (n := j) (arr := mvs.toArray) (by repeat (first | exact List.mem_cons_self | apply List.mem_cons_of_mem)) (by repeat (first | exact List.mem_cons_self | apply List.mem_cons_of_mem)) hc4
    · exact cell_ne N1 (n := n) (arr := nvs.toArray) (by repeat (first | exact List.mem_cons_self | apply List.mem_cons_of_mem)) (by repeat (first | exact List.mem_cons_self | apply List.mem_cons_of_mem)) hc4
    · exact cell_ne N1 (n := k) (arr := ovs.toArray) (by repeat (first | exact List.mem_cons_self | apply List.mem_cons_of_mem)) (by repeat (first | exact List.mem_cons_self | apply List.mem_cons_of_mem)) hc4
    · exact Nat.ne_of_lt (Nat.lt_succ_of_lt (Nat.lt_succ_self _))
    · exact Nat.ne_of_lt (Nat.lt_succ_self _)
    · exact Nat.ne_of_gt (Nat.lt_succ_self _)
    · exact Nat.ne_of_gt (Nat.lt_succ_of_lt (Nat.lt_succ_self _))
  refine storeX_C F1 (newsSub (nw := (L + 1 + 1 + 1 + 1, c4) :: [(la, W.listOf #[] 0), (da, W.listOf dvs.toArray j9), (ma, W.listOf mvs.toArray j), (na, W.listOf nvs.toArray n), (oa, W.listOf ovs.toArray k), (L + 1 + 1, c2), (L + 1 + 1 + 1, c3), (L + 1 + 1 + 1 + 1 + 1, c5), (L + 1 + 1 + 1 + 1 + 1 + 1, c6)]) N1 (by kst_in)) rfl (.head hL4) hc4 fun h9 o9 F9 N9 d9 => ?_
  obtain ⟨e1, e2, e3, e4, e5, e6, e7, e8, e9⟩ := hlt
  exact hQ0 _ _ ⟨_, _, _, _, rfl, rfl, F9, N9, fun z hz => rfl, la, 0, o9, d9, ⟨Nat.ne_of_gt e1, Nat.ne_of_gt e2, Nat.ne_of_gt e3, Nat.ne_of_gt e4⟩, ⟨Nat.ne_of_gt e5, Nat.ne_of_gt e6, Nat.ne_of_gt e7, Nat.ne_of_gt e8, Nat.ne_of_gt e9⟩, by kst_in⟩
end Wr50
end
section
set_option maxRecDepth 100000
set_option maxHeartbeats 4000000
namespace Wr50
open PySem PySem.W PySem.Calls PyProof.Rows
theorem law_6 : ∀ (w : World) (os : List PySem.Str) (_ : Oks os) (dp un : Nat) (gd : Option (List Code)) (frs : List Env) (base g : Heap) (mean : ExcName → Option Value) (mg mb : PySem.Str → Option Value)
   (_ : Below (ar dp un gd frs) base frs g) (_ : (KF w.params).In g) (_ : Top qv lo mean mg mb g) (_ : dp + 10 < recursionLimit) (_ : un + 200 < cLine)
   (L : Addr) (ha na oa ma : Addr) (hvs nvs ovs mvs : List Value) (hn n k j : Nat) (c2 c3 c4 c5 c6 : Obj) (_ : c4.data = .cell (some (.ref ha))) (_ : StrsAre hvs os ∧ StrsAre mvs os) (_ : os.length = 5) (s : Shared) (E : Value → Shared → Prop) (m : PySem.Str → Option Value) (_ : m (Str.ofString "meant") = some (.ref ma))
   (_ : Fr g L s.heap m) (_ : News g L s.heap [(na, W.listOf nvs.toArray n), (oa, W.listOf ovs.toArray k), (ha, W.listOf hvs.toArray hn), (ma, W.listOf mvs.toArray j), (L + 1 + 1, c2), (L + 1 + 1 + 1, c3), (L + 1 + 1 + 1 + 1, c4), (L + 1 + 1 + 1 + 1 + 1, c5), (L + 1 + 1 + 1 + 1 + 1 + 1, c6)])
   (_ : PassesOwn (model PySem.Challenge.rw_wr0050_01.prog w) ((ar dp un gd frs).deeper (env26 L)) (env26 L) E),
   wpAny (model PySem.Challenge.rw_wr0050_01.prog w) ((ar dp un gd frs).deeper (env26 L)) (exec q6.1 (env26 L))
       (TurnW s g L m [] (fun m' nw' => ∀ p ∈ [(na, W.listOf nvs.toArray n), (oa, W.listOf ovs.toArray k), (ha, W.listOf hvs.toArray hn), (ma, W.listOf mvs.toArray j), (L + 1 + 1, c2), (L + 1 + 1 + 1, c3), (L + 1 + 1 + 1 + 1, c4), (L + 1 + 1 + 1 + 1 + 1, c5), (L + 1 + 1 + 1 + 1 + 1 + 1, c6)], p ∈ nw')) E s := by
  k_fill
  intro w os hok dp un gd frs base g mean mg mb B X T hd hu L ha na oa ma hvs nvs ovs mvs hn n k j c2 c3 c4 c5 c6 hc4 hhm hol s E m hmm F N hE
  refine hideQ ?_
  intro Q0 hQ0
  have FF := kst_self2 (ps := [(Str.ofString "meant", .ref ma)]) (fun p hp => by rw [List.mem_singleton.mp hp]; exact hmm) F
  clear F
  walk1
  walk1
  walk1
  walk1
  dsimp only
  refine strs_ne (News.isList N (.tail _ (.tail _ (.head _)))) (News.isList N (.tail _ (.tail _ (.tail _ (.head _))))) hhm.1 hhm.2 hok hok (by rw [units_deeper]; show un + 3 + 64 < cLine; exact room3 hu (by decide)) ?_
  rw [show (!decide (os = os)) = false by simp]
  k_steps
  exact hQ0 _ _ ⟨_, _, _, _, rfl, rfl, FF, N, fun z hz => kstB_self (fun p hp => by rw [List.mem_singleton.mp hp]; exact hmm), fun p hp => hp⟩
theorem law_7 : ∀ (w : World) (nn : List Nat) (_ : nn.length = 6) (dp un : Nat) (gd : Option (List Code)) (frs : List Env) (base g : Heap) (mean : ExcName → Option Value) (mg mb : PySem.Str → Option Value)
   (_ : Below (ar dp un gd frs) base frs g) (_ : (KF w.params).In g) (_ : Top qv lo mean mg mb g) (_ : dp + 10 < recursionLimit) (_ : un + 200 < cLine)
   (L : Addr) (ha na oa : Addr) (hvs nvs ovs : List Value) (hn n k : Nat) (c2 c3 c4 c5 c6 : Obj) (_ : IntsAre nvs (natL nn)) (s : Shared) (E : Value → Shared → Prop) (m : PySem.Str → Option Value) (_ : m (Str.ofString "numbers") = some (.ref na))
   (_ : Fr g L s.heap m) (_ : News g L s.heap [(ha, W.listOf hvs.toArray hn), (na, W.listOf nvs.toArray n), (oa, W.listOf ovs.toArray k), (L + 1 + 1, c2), (L + 1 + 1 + 1, c3), (L + 1 + 1 + 1 + 1, c4), (L + 1 + 1 + 1 + 1 + 1, c5), (L + 1 + 1 + 1 + 1 + 1 + 1, c6)])
   (_ : PassesOwn (model PySem.Challenge.rw_wr0050_01.prog w) ((ar dp un gd frs).deeper (env26 L)) (env26 L) E),
   wpAny (model PySem.Challenge.rw_wr0050_01.prog w) ((ar dp un gd frs).deeper (env26 L)) (exec q7.1 (env26 L))
       (TurnW s g L m [Str.ofString "shared"] (fun m' nw' => ∃ t, m' (Str.ofString "shared") = some (.str (stL (ordN (nn.getD 4 0))) t) ∧ ∀ p ∈ [(ha, W.listOf hvs.toArray hn), (na, W.listOf nvs.toArray n), (oa, W.listOf ovs.toArray k), (L + 1 + 1, c2), (L + 1 + 1 + 1, c3), (L + 1 + 1 + 1 + 1, c4), (L + 1 + 1 + 1 + 1 + 1, c5), (L + 1 + 1 + 1 + 1 + 1 + 1, c6)], p ∈ nw')) E s := by
  k_fill
  intro w nn hnl dp un gd frs base g mean mg mb B X T hd hu L ha na oa hvs nvs ovs hn n k c2 c3 c4 c5 c6 hni s E m hmn F N hE
  refine hideQ ?_
  intro Q0 hQ0
  have FF := kst_self2 (ps := [(Str.ofString "numbers", .ref na)]) (fun p hp => by rw [List.mem_singleton.mp hp]; exact hmn) F
  clear F
  have hvl : nvs.length = 6 := by rw [hni.length, natL, List.length_map, hnl]
  k_with "call ref" => refine hold ?_
  k_steps
  unfold Hold
  k_with_none
  rename Fr _ _ _ _ => F1
  rename News _ _ _ _ => N1
  rw [natL_getD]
  refine use (pc_order w _ _) B F1 N1 X T rfl rfl (room1 hd (by decide)) (room3 hu (by decide)) trivial ?_
  rintro v h5 tk5 F5 N5 _ ⟨t5, rfl⟩
  k_steps
  rename Fr _ _ _ _ => F6
  rename News _ _ _ _ => N6
  exact hQ0 _ _ ⟨_, _, _, _, rfl, rfl, F6, N6, fun z hz => name_off hz (fun p hp => by rw [List.mem_singleton.mp hp]; exact hmn), t5, if_pos rfl, fun p hp => hp⟩
theorem law_8 : ∀ (w : World)  (dp un : Nat) (gd : Option (List Code)) (frs : List Env) (base g : Heap) (mean : ExcName → Option Value) (mg mb : PySem.Str → Option Value)
   (_ : Below (ar dp un gd frs) base frs g) (_ : (KF w.params).In g) (_ : Top qv lo mean mg mb g) (_ : dp + 10 < recursionLimit) (_ : un + 200 < cLine)
   (L : Addr) (ha na oa : Addr) (hvs nvs ovs : List Value) (hn n k : Nat) (c2 c3 c4 c5 c6 : Obj) (v5 : Option Value) (_ : c5.data = .cell v5) (s : Shared) (E : Value → Shared → Prop) (m : PySem.Str → Option Value) 
   (_ : Fr g L s.heap m) (_ : News g L s.heap [(ha, W.listOf hvs.toArray hn), (na, W.listOf nvs.toArray n), (oa, W.listOf ovs.toArray k), (L + 1 + 1, c2), (L + 1 + 1 + 1, c3), (L + 1 + 1 + 1 + 1, c4), (L + 1 + 1 + 1 + 1 + 1, c5), (L + 1 + 1 + 1 + 1 + 1 + 1, c6)])
   (_ : PassesOwn (model PySem.Challenge.rw_wr0050_01.prog w) ((ar dp un gd frs).deeper (env26 L)) (env26 L) E),
   wpAny (model PySem.Challenge.rw_wr0050_01.prog w) ((ar dp un gd frs).deeper (env26 L)) (exec q8.1 (env26 L))
       (TurnW s g L m [] (fun m' nw' => ∃ va vn c5', c5'.data = .cell (some (.ref va)) ∧ ((@Ne Nat va ha) ∧ (@Ne Nat va na) ∧ (@Ne Nat va oa)) ∧ CellsOff L va ∧ ∀ p ∈ [(va, W.listOf #[] vn), (ha, W.listOf hvs.toArray hn), (na, W.listOf nvs.toArray n), (oa, W.listOf ovs.toArray k), (L + 1 + 1, c2), (L + 1 + 1 + 1, c3), (L + 1 + 1 + 1 + 1, c4), (L + 1 + 1 + 1 + 1 + 1, c5'), (L + 1 + 1 + 1 + 1 + 1 + 1, c6)], p ∈ nw')) E s := by
  k_fill
  intro w  dp un gd frs base g mean mg mb B X T hd hu L ha na oa hvs nvs ovs hn n k c2 c3 c4 c5 c6 v5 hc5 s E m  F N hE
  refine hideQ ?_
  intro Q0 hQ0
  k_with "storeName" => refine hold ?_
  k_steps
  unfold Hold
  k_with_none
  rename Fr _ _ _ _ => F1
  rename News _ _ _ _ => N1
  rename_i la _ hlt
  have hL4 : ∀ p ∈ [(la, W.listOf #[] 0), (ha, W.listOf hvs.toArray hn), (na, W.listOf nvs.toArray n), (oa, W.listOf ovs.toArray k), (L + 1 + 1, c2), (L + 1 + 1 + 1, c3), (L + 1 + 1 + 1 + 1, c4), (L + 1 + 1 + 1 + 1 + 1 + 1, c6)], p.1 ≠ L + 1 + 1 + 1 + 1 + 1 := by
    refine all1 ?_ (all1 ?_ (all1 ?_ (all1 ?_ (all1 ?_ (all1 ?_ (all1 ?_ (all1 ?_ all0)))))))
    · exact cell_ne N1 (n := 0) (arr := #[]) (by repeat (first | exact List.mem_cons_self | apply List.mem_cons_of_mem)) (by repeat (first | exact List.mem_cons_self | apply List.mem_cons_of_mem)) hc5
    · exact cell_ne N1 (n := hn) (arr := hvs.toArray) (by repeat (first | exact List.mem_cons_self | apply List.mem_cons_of_mem)) (by repeat (first | exact List.mem_cons_self | apply List.mem_cons_of_mem)) hc5
    · exact cell_ne N1 (n := n) (arr := nvs.toArray) (by repeat (first | exact List.mem_cons_self | apply List.mem_cons_of_mem)) (by repeat (first | exact List.mem_cons_self | apply List.mem_cons_of_mem)) hc5
    · exact cell_ne N1 (n := k) (arr := ovs.toArray) (by repeat (first | exact List.mem_cons_self | apply List.mem_cons_of_mem)) (by repeat (first | exact List.mem_cons_self | apply List.mem_cons_of_mem)) hc5
    · exact Nat.ne_of_lt (Nat.lt_succ_of_lt (Nat.lt_succ_of_lt (Nat.lt_succ_self _)))
    · exact Nat.ne_of_lt (Nat.lt_succ_of_lt (Nat.lt_succ_self _))
    · exact Nat.ne_of_lt (Nat.lt_succ_self _)
    · exact Nat.ne_of_gt (Nat.lt_succ_self _)
  refine storeX_C F1 (newsSub (nw := (L + 1 + 1 + 1 + 1 + 1, c5) :: [(la, W.listOf #[] 0), (ha, W.listOf hvs.toArray hn), (na, W.listOf nvs.toArray n), (oa, W.listOf ovs.toArray k), (L + 1 + 1, c2), (L + 1 + 1 + 1, c3), (L + 1 + 1 + 1 + 1, c4), (L + 1 + 1 + 1 + 1 + 1 + 1, c6)]) N1 (by kst_in)) rfl (.head hL4) hc5 fun h9 o9 F9 N9 d9 => ?_
  obtain ⟨e1, e2, e3, e5, e6, e7, e8, e9⟩ := hlt
  exact hQ0 _ _ ⟨_, _, _, _, rfl, rfl, F9, N9, fun z hz => rfl, la, 0, o9, d9, ⟨Nat.ne_of_gt e1, Nat.ne_of_gt e2, Nat.ne_of_gt e3⟩, ⟨Nat.ne_of_gt e5, Nat.ne_of_gt e6, Nat.ne_of_gt e7, Nat.ne_of_gt e8, Nat.ne_of_gt e9⟩, by kst_in⟩
end Wr50
end
section
set_option maxRecDepth 100000
set_option maxHeartbeats 4000000
namespace Wr50
open PySem PySem.W PySem.Calls PyProof.Rows
@[reducible] noncomputable def fb26b : { l : List Stmt // l = forBody (b26.1.getD 9 st0) } := by
  apply cap
  conv => rhs; whnf
@[reducible] noncomputable def g0 : { l : Stmt // l = fb26b.1.getD 0 st0 } := by
  apply cap
  conv => rhs; whnf
@[reducible] noncomputable def g1 : { l : Stmt // l = fb26b.1.getD 1 st0 } := by
  apply cap
  conv => rhs; whnf
@[reducible] noncomputable def g2 : { l : Stmt // l = fb26b.1.getD 2 st0 } := by
  apply cap
  conv => rhs; whnf
@[reducible] noncomputable def g3 : { l : Stmt // l = fb26b.1.getD 3 st0 } := by
  apply cap
  conv => rhs; whnf
@[reducible] noncomputable def g4 : { l : Stmt // l = fb26b.1.getD 4 st0 } := by
  apply cap
  conv => rhs; whnf
noncomputable def portN (n4 c i : Nat) : Int := (ltrs.idxOf c : Int) + 4 * (((n4 / 24 % 1000 : Nat) : Int) + 9 * (i : Int) - 500)
theorem fmodN (a b : Nat) : (a : Int).fmod (b : Int) = ((a % b : Nat) : Int) := (Int.ofNat_fmod a b).symm
theorem perms4_len4 : ∀ o ∈ perms4, o.length = 4 := by decide
theorem find_ltr : ∀ c ∈ ltrs, Txt.find (Str.ofString "fist") (st1 c) = (ltrs.idxOf c : Int) := by decide +kernel
theorem port_eq (nn sh : List Nat) (i : Nat) (hi : i < 4) (hp : sh ∈ perms4) : Txt.find (Str.ofString "fist") (Txt.item (stL sh) (i : Int)) + 4 * ((((natL nn).getD (Int.toNat 4) 0).fdiv 24).fmod 1000 + 9 * (i : Int) - 500) = portN (nn.getD 4 0) (sh.getD i 0) i := by
  have h := itemF sh hp ⟨i, hi⟩
  dsimp only at h
  have e1 : ((nn.getD (Int.toNat 4) 0 : Nat) : Int).fdiv 24 = ((nn.getD 4 0 / 24 : Nat) : Int) := fdivN _ 24
  have e2 : ((nn.getD 4 0 / 24 : Nat) : Int).fmod 1000 = ((nn.getD 4 0 / 24 % 1000 : Nat) : Int) := fmodN _ 1000
  rw [h.1, find_ltr _ h.2, natL_getD, e1, e2]
  rfl
theorem port_a : ∀ (w : World) (nn sh : List Nat) (_ : nn.length = 6) (_ : sh ∈ perms4) (i : Nat) (_ : i < 4) (tsh : Tok) (dp un : Nat) (gd : Option (List Code)) (frs : List Env) (base g : Heap) (mean : ExcName → Option Value) (mg mb : PySem.Str → Option Value)
   (_ : Below (ar dp un gd frs) base frs g) (_ : (KF w.params).In g) (_ : Top qv lo mean mg mb g) (_ : dp + 10 < recursionLimit) (_ : un + 200 < cLine)
   (L : Addr) (it va ha na oa : Addr) (io : Obj) (vvs hvs nvs ovs : List Value) (vn hn n k : Nat) (c2 c3 c4 c5 c6 : Obj) (tk2 : Tok) (_ : c2.data = .cell (some (.int (i : Nat) tk2))) (_ : IntsAre nvs (natL nn)) (s : Shared) (E : Value → Shared → Prop) (m : PySem.Str → Option Value) (_ : m (Str.ofString "numbers") = some (.ref na)) (_ : m (Str.ofString "shared") = some (.str (stL sh) tsh))
   (_ : Fr g L s.heap m) (_ : News g L s.heap [(it, io), (va, W.listOf vvs.toArray vn), (ha, W.listOf hvs.toArray hn), (na, W.listOf nvs.toArray n), (oa, W.listOf ovs.toArray k), (L + 1 + 1, c2), (L + 1 + 1 + 1, c3), (L + 1 + 1 + 1 + 1, c4), (L + 1 + 1 + 1 + 1 + 1, c5), (L + 1 + 1 + 1 + 1 + 1 + 1, c6)])
   (_ : PassesOwn (model PySem.Challenge.rw_wr0050_01.prog w) ((ar dp un gd frs).deeper (env26 L)) (env26 L) E),
   wpAny (model PySem.Challenge.rw_wr0050_01.prog w) ((ar dp un gd frs).deeper (env26 L)) (exec g0.1 (env26 L))
       (TurnW s g L m [Str.ofString "port"] (fun m' nw' => ∃ t, m' (Str.ofString "port") = some (.int (portN (nn.getD 4 0) (sh.getD i 0) i) t) ∧ ∀ p ∈ [(it, io), (va, W.listOf vvs.toArray vn), (ha, W.listOf hvs.toArray hn), (na, W.listOf nvs.toArray n), (oa, W.listOf ovs.toArray k), (L + 1 + 1, c2), (L + 1 + 1 + 1, c3), (L + 1 + 1 + 1 + 1, c4), (L + 1 + 1 + 1 + 1 + 1, c5), (L + 1 + 1 + 1 + 1 + 1 + 1, c6)], p ∈ nw')) E s := by
  k_fill
  intro w nn sh hnl hsp i hi tsh dp un gd frs base g mean mg mb B X T hd hu L it va ha na oa io vvs hvs nvs ovs vn hn n k c2 c3 c4 c5 c6 tk2 hc2 hni s E m hmn hms F N hE
  refine hideQ ?_
  intro Q0 hQ0
  have hkk : ∀ p ∈ [(Str.ofString "numbers", Value.ref na), (Str.ofString "shared", Value.str (stL sh) tsh)], m p.1 = some p.2 := fun p hp => by
    rcases List.mem_cons.mp hp with rfl | hp
    · exact hmn
    · rw [List.mem_singleton.mp hp]; exact hms
  have FF : Fr g L s.heap (fun z => if z = Str.ofString "numbers" then some (Value.ref na) else if z = Str.ofString "shared" then some (Value.str (stL sh) tsh) else m z) := kst_self2 hkk F
  clear F
  have hnv : nvs.length = 6 := by rw [hni.length, natL, List.length_map, hnl]
  have hsl2 : (stL sh).length = 4 := by show sh.toArray.size = 4; rw [List.size_toArray]; exact perms4_len4 _ hsp
  k_with "binaryOp Mod int int" => refine hold ?_
  k_steps
  unfold Hold
  k_with_none
  dsimp only
  k_with "binaryOp Sub int int" => refine hold ?_
  k_steps
  unfold Hold
  k_with_none
  dsimp only
  k_steps
  dsimp only
  rename Fr _ _ _ _ => F6
  rename News _ _ _ _ => N6
  rw [port_eq nn sh i hi hsp] at F6
  exact hQ0 _ _ ⟨_, _, _, _, rfl, rfl, F6, N6, fun z hz => name_off (ps := [(Str.ofString "numbers", Value.ref na), (Str.ofString "shared", Value.str (stL sh) tsh)]) hz hkk, _, if_pos rfl, fun p hp => hp⟩
theorem mark_at : ∀ r : Fin 5, Txt.item (Str.ofString "|!~#x") (r.val : Int) = st1 (marks.getD r.val 0) ∧ marks.getD r.val 0 ∈ marks := by decide +kernel
theorem mark_eq (nn : List Nat) (i : Nat) : ∃ mk, mk ∈ marks ∧ Txt.item (Str.ofString "|!~#x") (((natL nn).getD (Int.toNat 4) 0 + (i : Int)).fmod 5) = st1 mk := by
  rw [natL_getD, show ((nn.getD (Int.toNat 4) 0 : Nat) : Int) + (i : Int) = ((nn.getD (Int.toNat 4) 0 + i : Nat) : Int) from rfl, show ((nn.getD (Int.toNat 4) 0 + i : Nat) : Int).fmod 5 = (((nn.getD (Int.toNat 4) 0 + i) % 5 : Nat) : Int) from fmodN _ 5]
  have h := mark_at ⟨(nn.getD (Int.toNat 4) 0 + i) % 5, Nat.mod_lt _ (by decide)⟩
  exact ⟨_, h.2, h.1⟩
theorem port_b : ∀ (w : World) (nn : List Nat) (_ : nn.length = 6) (i : Nat) (_ : i < 4) (dp un : Nat) (gd : Option (List Code)) (frs : List Env) (base g : Heap) (mean : ExcName → Option Value) (mg mb : PySem.Str → Option Value)
   (_ : Below (ar dp un gd frs) base frs g) (_ : (KF w.params).In g) (_ : Top qv lo mean mg mb g) (_ : dp + 10 < recursionLimit) (_ : un + 200 < cLine)
   (L : Addr) (it va ha na oa : Addr) (io : Obj) (vvs hvs nvs ovs : List Value) (vn hn n k : Nat) (c2 c3 c4 c5 c6 : Obj) (tk2 : Tok) (_ : c2.data = .cell (some (.int (i : Nat) tk2))) (_ : IntsAre nvs (natL nn)) (s : Shared) (E : Value → Shared → Prop) (m : PySem.Str → Option Value) (_ : m (Str.ofString "numbers") = some (.ref na))
   (_ : Fr g L s.heap m) (_ : News g L s.heap [(it, io), (va, W.listOf vvs.toArray vn), (ha, W.listOf hvs.toArray hn), (na, W.listOf nvs.toArray n), (oa, W.listOf ovs.toArray k), (L + 1 + 1, c2), (L + 1 + 1 + 1, c3), (L + 1 + 1 + 1 + 1, c4), (L + 1 + 1 + 1 + 1 + 1, c5), (L + 1 + 1 + 1 + 1 + 1 + 1, c6)])
   (_ : PassesOwn (model PySem.Challenge.rw_wr0050_01.prog w) ((ar dp un gd frs).deeper (env26 L)) (env26 L) E),
   wpAny (model PySem.Challenge.rw_wr0050_01.prog w) ((ar dp un gd frs).deeper (env26 L)) (exec g1.1 (env26 L))
       (TurnW s g L m [Str.ofString "mark"] (fun m' nw' => ∃ t mk, mk ∈ marks ∧ m' (Str.ofString "mark") = some (.str (st1 mk) t) ∧ ∀ p ∈ [(it, io), (va, W.listOf vvs.toArray vn), (ha, W.listOf hvs.toArray hn), (na, W.listOf nvs.toArray n), (oa, W.listOf ovs.toArray k), (L + 1 + 1, c2), (L + 1 + 1 + 1, c3), (L + 1 + 1 + 1 + 1, c4), (L + 1 + 1 + 1 + 1 + 1, c5), (L + 1 + 1 + 1 + 1 + 1 + 1, c6)], p ∈ nw')) E s := by
  k_fill
  intro w nn hnl i hi dp un gd frs base g mean mg mb B X T hd hu L it va ha na oa io vvs hvs nvs ovs vn hn n k c2 c3 c4 c5 c6 tk2 hc2 hni s E m hmn F N hE
  refine hideQ ?_
  intro Q0 hQ0
  have hkk : ∀ p ∈ [(Str.ofString "numbers", Value.ref na)], m p.1 = some p.2 := fun p hp => by rw [List.mem_singleton.mp hp]; exact hmn
  have FF : Fr g L s.heap (fun z => if z = Str.ofString "numbers" then some (Value.ref na) else m z) := kst_self2 hkk F
  clear F
  have hnv : nvs.length = 6 := by rw [hni.length, natL, List.length_map, hnl]
  k_with "binaryOp Mod int int" => refine hold ?_
  k_steps
  unfold Hold
  k_with_none
  dsimp only
  k_steps
  dsimp only
  rename Fr _ _ _ _ => F6
  rename News _ _ _ _ => N6
  obtain ⟨mk, hmk, e⟩ := mark_eq nn i
  rw [e] at F6
  exact hQ0 _ _ ⟨_, _, _, _, rfl, rfl, F6, N6, fun z hz => name_off (ps := [(Str.ofString "numbers", Value.ref na)]) hz hkk, _, mk, hmk, if_pos rfl, fun p hp => hp⟩
end Wr50
end
section
set_option maxRecDepth 100000
set_option maxHeartbeats 4000000
namespace Wr50
open PySem PySem.W PySem.Calls PyProof.Rows PySem.NumText PySem.W.KIN
theorem num_digits (m : Nat) : AllDigits ((Nat.toDigits 10 m).map Char.toNat) := by
  intro c hc
  obtain ⟨ch, hch, e⟩ := List.mem_map.mp hc
  have r := digit_range (Nat.isDigit_of_mem_toDigits (by decide) (by decide) hch)
  rw [← e]
  exact r
theorem num_ne (m : Nat) : (Nat.toDigits 10 m).map Char.toNat ≠ [] := by
  intro e
  have h := toDigits_len_ge 10 m
  rw [List.map_eq_nil_iff.mp e] at h
  exact absurd h (by decide)
theorem num_len (m : Nat) (h : m < 100000) : ((Nat.toDigits 10 m).map Char.toNat).length ≤ 10 := by
  rw [← signs_num]
  exact KT.len_num (n := (m : Int)) (Int.natCast_nonneg m) (by omega)
theorem stL_toList (x : PySem.Str) : x = stL x.cps.toList := by
  show x = ⟨x.cps.toList.toArray⟩
  rw [Array.toArray_toList]
theorem port_text (p : Int) (h : -100000 < p ∧ p < 100000) : ∃ ps : List Nat, Str.ofString (toString p) = stL ps ∧ (∀ c ∈ ps, c = 45 ∨ (48 ≤ c ∧ c ≤ 57)) ∧ ps.length ≤ 12 ∧ PySem.intText? (stL ps) = some p := by
  refine ⟨(Str.ofString (toString p)).cps.toList, stL_toList _, ?_⟩
  rw [← stL_toList]
  cases p with
  | ofNat m =>
    have hm : m < 100000 := by have := h.2; simp at this; omega
    rw [show Str.ofString (toString (Int.ofNat m)) = Str.ofString (toString ((m : Nat) : Int)) from rfl]
    refine ⟨?_, ?_, num_reads (Int.natCast_nonneg m) (by omega)⟩
    · rw [signs_num]; exact fun c hc => .inr (num_digits m c hc)
    · rw [signs_num]; exact Nat.le_trans (num_len m hm) (by decide)
  | negSucc m =>
    have hm : m + 1 < 100000 := by have := h.1; omega
    have e : (Str.ofString (toString (Int.negSucc m))).cps.toList = 45 :: (Nat.toDigits 10 (m + 1)).map Char.toNat := by
      rw [signs_ofString, ← Nat.toList_repr]
      show ("-" ++ Nat.repr (m + 1)).toList.map Char.toNat = _
      rw [String.toList_append]
      rfl
    refine ⟨?_, ?_, ?_⟩
    · rw [e]
      intro c hc
      rcases List.mem_cons.mp hc with rfl | hc
      · exact .inl rfl
      · exact .inr (num_digits (m + 1) c hc)
    · rw [e, List.length_cons]
      exact Nat.succ_le_succ (Nat.le_trans (num_len (m + 1) hm) (by decide))
    · have hl : (Str.ofString (toString (Int.negSucc m))).length ≤ 4300 := by
        show (Str.ofString (toString (Int.negSucc m))).cps.size ≤ _
        rw [← Array.length_toList, e, List.length_cons]
        exact Nat.succ_le_succ (Nat.le_trans (num_len (m + 1) hm) (by decide))
      have := intText_neg e (num_digits (m + 1)) (num_ne (m + 1)) hl
      rw [val_back] at this
      exact this
theorem ask_eq (mk : Nat) (ps : List Nat) : Str.ofString "229 ok (" ++ st1 mk ++ st1 mk ++ Str.ofString "1" ++ st1 mk ++ stL ps ++ st1 mk ++ Str.ofString ") (x)" = ask mk ps := by
  show stL [50, 50, 57, 32, 111, 107, 32, 40] ++ stL [mk] ++ stL [mk] ++ stL [49] ++ stL [mk] ++ stL ps ++ stL [mk] ++ stL [41, 32, 40, 120, 41] = _
  simp only [stL_app]
  unfold ask
  congr 1
  simp
end Wr50
end
section
set_option maxRecDepth 100000
set_option maxHeartbeats 4000000
namespace Wr50
open PySem PySem.W PySem.Calls PyProof.Rows
theorem port_c : ∀ (w : World) (i : Nat) (_ : i < 4) (mk : Nat) (_ : mk ∈ marks) (port : Int) (_ : -100000 < port ∧ port < 100000) (tm tp : Tok) (dp un : Nat) (gd : Option (List Code)) (frs : List Env) (base g : Heap) (mean : ExcName → Option Value) (mg mb : PySem.Str → Option Value)
   (_ : Below (ar dp un gd frs) base frs g) (_ : (KF w.params).In g) (_ : Top qv lo mean mg mb g) (_ : dp + 10 < recursionLimit) (_ : un + 200 < cLine)
   (L : Addr) (it va ha na oa : Addr) (io : Obj) (vvs hvs nvs ovs : List Value) (vn hn n k : Nat) (c2 c3 c4 c5 c6 : Obj) (tk2 : Tok) (_ : c2.data = .cell (some (.int (i : Nat) tk2)))  (s : Shared) (E : Value → Shared → Prop) (m : PySem.Str → Option Value) (_ : m (Str.ofString "mark") = some (.str (st1 mk) tm)) (_ : m (Str.ofString "port") = some (.int port tp))
   (_ : Fr g L s.heap m) (_ : News g L s.heap [(it, io), (va, W.listOf vvs.toArray vn), (ha, W.listOf hvs.toArray hn), (na, W.listOf nvs.toArray n), (oa, W.listOf ovs.toArray k), (L + 1 + 1, c2), (L + 1 + 1 + 1, c3), (L + 1 + 1 + 1 + 1, c4), (L + 1 + 1 + 1 + 1 + 1, c5), (L + 1 + 1 + 1 + 1 + 1 + 1, c6)])
   (_ : PassesOwn (model PySem.Challenge.rw_wr0050_01.prog w) ((ar dp un gd frs).deeper (env26 L)) (env26 L) E),
   wpAny (model PySem.Challenge.rw_wr0050_01.prog w) ((ar dp un gd frs).deeper (env26 L)) (exec g2.1 (env26 L))
       (TurnW s g L m [Str.ofString "answer"] (fun m' nw' => ∃ aa o t1 t2 c, m' (Str.ofString "answer") = some (.ref aa) ∧ o.cls = .type "tuple" ∧ o.data = .seq #[.str (st1 (ltrs.getD i 0)) t1, .int port t2] c ∧ ∀ p ∈ [(aa, o), (it, io), (va, W.listOf vvs.toArray vn), (ha, W.listOf hvs.toArray hn), (na, W.listOf nvs.toArray n), (oa, W.listOf ovs.toArray k), (L + 1 + 1, c2), (L + 1 + 1 + 1, c3), (L + 1 + 1 + 1 + 1, c4), (L + 1 + 1 + 1 + 1 + 1, c5), (L + 1 + 1 + 1 + 1 + 1 + 1, c6)], p ∈ nw')) E s := by
  k_fill
  intro w i hi mk hmk port hpt tm tp dp un gd frs base g mean mg mb B X T hd hu L it va ha na oa io vvs hvs nvs ovs vn hn n k c2 c3 c4 c5 c6 tk2 hc2 s E m hmm hmp F N hE
  refine hideQ ?_
  intro Q0 hQ0
  have hkk : ∀ p ∈ [(Str.ofString "mark", Value.str (st1 mk) tm), (Str.ofString "port", Value.int port tp)], m p.1 = some p.2 := fun p hp => by
    rcases List.mem_cons.mp hp with rfl | hp
    · exact hmm
    · rw [List.mem_singleton.mp hp]; exact hmp
  have FF : Fr g L s.heap (fun z => if z = Str.ofString "mark" then some (Value.str (st1 mk) tm) else if z = Str.ofString "port" then some (Value.int port tp) else m z) := kst_self2 hkk F
  clear F
  have hlm : (st1 mk).length = 1 := rfl
  obtain ⟨ps, hps, hpc, hpl, hpi⟩ := port_text port hpt
  k_with "call ref" => refine hold ?_
  k_steps
  unfold Hold
  k_with_none
  rename Fr _ _ _ _ => F6
  rename News _ _ _ _ => N6
  have hit := fist_item ⟨i, hi⟩
  dsimp only at hit
  rw [hps, ask_eq]
  rw [show Txt.item (Str.ofString "fist") (i : Int) = st1 (ltrs.getD i 0) from hit] at N6
  refine use (pc_229 w mk hmk ps hpc hpl (st1 (ltrs.getD i 0)) port hpi _ _ _ _) B F6 N6 X T rfl rfl (room1 hd (by decide)) (room3 hu (by decide)) ⟨_, (N6 _ (.head _)).1, rfl, _, rfl⟩ ?_
  rintro v h7 tk7 F7 N7 _ ⟨a7, t1, t2, rfl, hn7, o7, ho7, hc7, n7, hd7⟩
  have hL7 : a7 ≠ L := by
    rintro rfl
    obtain ⟨oC, heC, hoC⟩ := LCg.ns_obj F7.ns
    rw [ho7] at heC
    cases heC
    obtain ⟨_, _, hd, _⟩ := hoC
    rw [hd7] at hd
    cases hd
  have hg7 : g.get? a7 = none := by
    cases e : g.get? a7 with
    | none => rfl
    | some o' => have := F6.keep _ _ e; rw [hn7] at this; cases this
  have N8 : News g L h7 ((a7, o7) :: [(it, io), (va, W.listOf vvs.toArray vn), (ha, W.listOf hvs.toArray hn), (na, W.listOf nvs.toArray n), (oa, W.listOf ovs.toArray k), (L + 1 + 1, c2), (L + 1 + 1 + 1, c3), (L + 1 + 1 + 1 + 1, c4), (L + 1 + 1 + 1 + 1 + 1, c5), (L + 1 + 1 + 1 + 1 + 1 + 1, c6)]) := fun p hp => by
    rcases List.mem_cons.mp hp with rfl | hp
    · exact ⟨ho7, hL7, hg7⟩
    · exact N7 p (.tail _ hp)
  clear N7
  k_steps
  rename Fr _ _ _ _ => F9
  rename News _ _ _ _ => N9
  refine hQ0 _ _ ⟨_, _, _, _, rfl, rfl, F9, N9, fun z hz => name_off (ps := [(Str.ofString "mark", Value.str (st1 mk) tm), (Str.ofString "port", Value.int port tp)]) hz hkk, a7, o7, t1, t2, n7, if_pos rfl, hc7, hd7, fun p hp => hp⟩
end Wr50
end
section
set_option maxRecDepth 100000
set_option maxHeartbeats 4000000
namespace Wr50
open PySem PySem.W PySem.Calls PyProof.Rows
section
variable {prog : Program} {w : World} {A : Around} {E : Value → Shared → Prop} {s : Shared} {a b : Addr} {Q : Value → Shared → Prop}
theorem tup_ne {x : PySem.Str} {p : Int} {t1 t2 u1 u2 : Tok} (hx : PyData.strOk x = true) (ha : IsTup s.heap a #[.str x t1, .int p t2]) (hb : IsTup s.heap b #[.str x u1, .int p u2]) (hu : A.units + 64 < cLine) (h : Q (.bool false) s) :
    wpAny (model prog w) A (compareOp .NotEq (.ref a) (.ref b)) Q E s := by
  have hs : SeqAt.shaped (.tuple [PyData.str x, PyData.int p]) = true := by
    simp [SeqAt.shaped, PyData.canLay0, PyData.canLayAll0, PyData.depth, PyData.depthAll, hx]
  refine ne_dataH_same (reads_newDataT (ds := [PyData.str x, PyData.int p]) ha ?_) (reads_newDataT (ds := [PyData.str x, PyData.int p]) hb ?_) hs hs hu ?_ ?_
  · exact .cons (.str ..) (.cons (.int ..) .nil)
  · exact .cons (.str ..) (.cons (.int ..) .nil)
  · rfl
  · have : PySem.Spec.same (.tuple [PyData.str x, PyData.int p]) (.tuple [PyData.str x, PyData.int p]) = true := by simp [PySem.Spec.same, PySem.Spec.sameAll]
    rw [this]; exact h
end
theorem fist_ok : ∀ i : Fin 4, PyData.strOk (st1 (ltrs.getD i.val 0)) = true := by decide +kernel
theorem port_d : ∀ (w : World) (sh : List Nat) (_ : sh ∈ perms4) (i : Nat) (_ : i < 4) (port : Int) (_ : port % 4 = (ltrs.idxOf (sh.getD i 0) : Int)) (tp tsh t1 t2 : Tok) (c : Nat) (dp un : Nat) (gd : Option (List Code)) (frs : List Env) (base g : Heap) (mean : ExcName → Option Value) (mg mb : PySem.Str → Option Value)
   (_ : Below (ar dp un gd frs) base frs g) (_ : (KF w.params).In g) (_ : Top qv lo mean mg mb g) (_ : dp + 10 < recursionLimit) (_ : un + 200 < cLine)
   (L : Addr) (aa : Addr) (ao : Obj) (_ : ao.cls = .type "tuple") (_ : ao.data = .seq #[.str (st1 (ltrs.getD i 0)) t1, .int port t2] c) (it va ha na oa : Addr) (io : Obj) (vvs hvs nvs ovs : List Value) (vn hn n k : Nat) (c2 c3 c4 c5 c6 : Obj) (tk2 : Tok) (_ : c2.data = .cell (some (.int (i : Nat) tk2)))  (s : Shared) (E : Value → Shared → Prop) (m : PySem.Str → Option Value) (_ : m (Str.ofString "answer") = some (.ref aa)) (_ : m (Str.ofString "port") = some (.int port tp)) (_ : m (Str.ofString "shared") = some (.str (stL sh) tsh))
   (_ : Fr g L s.heap m) (_ : News g L s.heap [(aa, ao), (it, io), (va, W.listOf vvs.toArray vn), (ha, W.listOf hvs.toArray hn), (na, W.listOf nvs.toArray n), (oa, W.listOf ovs.toArray k), (L + 1 + 1, c2), (L + 1 + 1 + 1, c3), (L + 1 + 1 + 1 + 1, c4), (L + 1 + 1 + 1 + 1 + 1, c5), (L + 1 + 1 + 1 + 1 + 1 + 1, c6)])
   (_ : PassesOwn (model PySem.Challenge.rw_wr0050_01.prog w) ((ar dp un gd frs).deeper (env26 L)) (env26 L) E),
   wpAny (model PySem.Challenge.rw_wr0050_01.prog w) ((ar dp un gd frs).deeper (env26 L)) (exec g3.1 (env26 L))
       (TurnW s g L m [] (fun m' nw' => ∀ p ∈ [(aa, ao), (it, io), (va, W.listOf vvs.toArray vn), (ha, W.listOf hvs.toArray hn), (na, W.listOf nvs.toArray n), (oa, W.listOf ovs.toArray k), (L + 1 + 1, c2), (L + 1 + 1 + 1, c3), (L + 1 + 1 + 1 + 1, c4), (L + 1 + 1 + 1 + 1 + 1, c5), (L + 1 + 1 + 1 + 1 + 1 + 1, c6)], p ∈ nw')) E s := by
  k_fill
  intro w sh hsp i hi port hpm tp tsh t1 t2 c dp un gd frs base g mean mg mb B X T hd hu L aa ao hao1 hao2 it va ha na oa io vvs hvs nvs ovs vn hn n k c2 c3 c4 c5 c6 tk2 hc2 s E m hma hmp hms F N hE
  refine hideQ ?_
  intro Q0 hQ0
  have hkk : ∀ p ∈ [(Str.ofString "answer", Value.ref aa), (Str.ofString "port", Value.int port tp), (Str.ofString "shared", Value.str (stL sh) tsh)], m p.1 = some p.2 := fun p hp => by
    rcases List.mem_cons.mp hp with rfl | hp
    · exact hma
    · rcases List.mem_cons.mp hp with rfl | hp
      · exact hmp
      · rw [List.mem_singleton.mp hp]; exact hms
  have FF : Fr g L s.heap (fun z => if z = Str.ofString "answer" then some (Value.ref aa) else if z = Str.ofString "port" then some (Value.int port tp) else if z = Str.ofString "shared" then some (Value.str (stL sh) tsh) else m z) := kst_self2 hkk F
  clear F
  have hsl2 : (stL sh).length = 4 := by show sh.toArray.size = 4; rw [List.size_toArray]; exact perms4_len4 _ hsp
  iterate 14 walk1
  rename Fr _ _ _ _ => F6
  rename News _ _ _ _ => N6
  have hit := fist_item ⟨i, hi⟩
  dsimp only at hit
  rw [show Txt.item (Str.ofString "fist") (i : Int) = st1 (ltrs.getD i 0) from hit] at N6
  have hok := fist_ok ⟨i, hi⟩
  dsimp only at hok
  refine tup_ne hok ⟨_, (N6 (aa, ao) (by simp)).1, hao1, _, hao2⟩ ⟨_, (N6 _ (.head _)).1, rfl, _, rfl⟩ (by rw [units_deeper]; show un + 3 + 64 < cLine; exact room3 hu (by decide)) ?_
  try dsimp only
  k_with "call ref" => refine hold ?_
  k_with "subscriptTail" => refine hold ?_
  iterate 11 walk1
  have hT6 : IsTup _ aa _ := ⟨ao, (N6 (aa, ao) (by simp)).1, hao1, _, hao2⟩
  k_with_none
  refine item_tuple (j := 1) hT6 (by decide) (by decide) rfl rfl ?_
  try dsimp only
  k_with "call ref" => refine hold ?_
  k_steps
  unfold Hold
  k_with_none
  rename Fr _ _ _ _ => F7
  rename News _ _ _ _ => N7
  refine use (pc_mod w _ _ _ _ (by decide)) B F7 N7 X T rfl rfl (room1 hd (by decide)) (room3 hu (by decide)) trivial ?_
  rintro v h8 tk8 F8 N8 _ ⟨t8, rfl⟩
  try dsimp only
  iterate 12 walk1
  have h2 := itemF sh hsp ⟨i, hi⟩
  dsimp only at h2
  rw [h2.1, find_ltr _ h2.2, hpm, show ((ltrs.idxOf (sh.getD i 0) : Int) != (ltrs.idxOf (sh.getD i 0) : Int)) = false by simp]
  k_steps
  rename Fr _ _ _ _ => F9
  rename News _ _ _ _ => N9
  exact hQ0 _ _ ⟨_, _, _, _, rfl, rfl, F9, newsSub N9 (by kst_in), fun z hz => kstB_self (ps := [(Str.ofString "answer", Value.ref aa), (Str.ofString "port", Value.int port tp), (Str.ofString "shared", Value.str (stL sh) tsh)]) hkk, fun p hp => hp⟩
end Wr50
end
section
set_option maxRecDepth 100000
set_option maxHeartbeats 4000000
namespace Wr50
open PySem PySem.W PySem.Calls PyProof.Rows
theorem getD_idxF : ∀ c ∈ ltrs, ltrs.getD (ltrs.idxOf c) 0 = c := by decide
theorem port_e : ∀ (w : World) (sh : List Nat) (_ : sh ∈ perms4) (i : Nat) (_ : i < 4) (port : Int) (_ : port % 4 = (ltrs.idxOf (sh.getD i 0) : Int)) (t1 t2 : Tok) (c : Nat) (dp un : Nat) (gd : Option (List Code)) (frs : List Env) (base g : Heap) (mean : ExcName → Option Value) (mg mb : PySem.Str → Option Value)
   (_ : Below (ar dp un gd frs) base frs g) (_ : (KF w.params).In g) (_ : Top qv lo mean mg mb g) (_ : dp + 10 < recursionLimit) (_ : un + 200 < cLine)
   (L : Addr) (aa : Addr) (ao : Obj) (_ : ao.cls = .type "tuple") (_ : ao.data = .seq #[.str (st1 (ltrs.getD i 0)) t1, .int port t2] c) (it va ha na oa : Addr) (io : Obj) (vvs hvs nvs ovs : List Value) (vn hn n k : Nat) (c2 c3 c4 c5 c6 : Obj) (tk2 : Tok) (_ : c2.data = .cell (some (.int (i : Nat) tk2))) (_ : vvs.length ≤ 4) (_ : c5.data = .cell (some (.ref va))) (_ : (@Ne Nat va it) ∧ (@Ne Nat va ha) ∧ (@Ne Nat va na) ∧ (@Ne Nat va oa)) (_ : CellsOff L va) (s : Shared) (E : Value → Shared → Prop) (m : PySem.Str → Option Value) (_ : m (Str.ofString "answer") = some (.ref aa))
   (_ : Fr g L s.heap m) (_ : News g L s.heap [(aa, ao), (it, io), (va, W.listOf vvs.toArray vn), (ha, W.listOf hvs.toArray hn), (na, W.listOf nvs.toArray n), (oa, W.listOf ovs.toArray k), (L + 1 + 1, c2), (L + 1 + 1 + 1, c3), (L + 1 + 1 + 1 + 1, c4), (L + 1 + 1 + 1 + 1 + 1, c5), (L + 1 + 1 + 1 + 1 + 1 + 1, c6)])
   (_ : PassesOwn (model PySem.Challenge.rw_wr0050_01.prog w) ((ar dp un gd frs).deeper (env26 L)) (env26 L) E),
   wpAny (model PySem.Challenge.rw_wr0050_01.prog w) ((ar dp un gd frs).deeper (env26 L)) (exec g4.1 (env26 L))
       (TurnW s g L m [] (fun m' nw' => ∃ t vn', ∀ p ∈ [(it, io), (va, W.listOf (vvs ++ [Value.str (st1 (sh.getD i 0)) t]).toArray vn'), (ha, W.listOf hvs.toArray hn), (na, W.listOf nvs.toArray n), (oa, W.listOf ovs.toArray k), (L + 1 + 1, c2), (L + 1 + 1 + 1, c3), (L + 1 + 1 + 1 + 1, c4), (L + 1 + 1 + 1 + 1 + 1, c5), (L + 1 + 1 + 1 + 1 + 1 + 1, c6)], p ∈ nw')) E s := by
  k_fill
  intro w sh hsp i hi port hpm t1 t2 c dp un gd frs base g mean mg mb B X T hd hu L aa ao hao1 hao2 it va ha na oa io vvs hvs nvs ovs vn hn n k c2 c3 c4 c5 c6 tk2 hc2 hvl hc5 hap hg s E m hma F N hE
  refine hideQ ?_
  intro Q0 hQ0
  have hkk : ∀ p ∈ [(Str.ofString "answer", Value.ref aa)], m p.1 = some p.2 := fun p hp => by rw [List.mem_singleton.mp hp]; exact hma
  have FF : Fr g L s.heap (fun z => if z = Str.ofString "answer" then some (Value.ref aa) else m z) := kst_self2 hkk F
  clear F
  k_with "subscriptTail Name Constant ref int" => refine hold ?_
  k_steps
  unfold Hold
  k_with_none
  have hT6 : IsTup _ aa _ := ⟨ao, (N (aa, ao) (by simp)).1, hao1, _, hao2⟩
  refine item_tuple (j := 1) hT6 (by decide) (by decide) rfl rfl ?_
  try dsimp only
  k_with "call ref" => refine hold ?_
  k_steps
  unfold Hold
  k_with_none
  rename Fr _ _ _ _ => F7
  rename News _ _ _ _ => N7
  refine use (pc_mod w _ _ _ _ (by decide)) B F7 N7 X T rfl rfl (room1 hd (by decide)) (room3 hu (by decide)) trivial ?_
  rintro v h8 tk8 F8 N8 _ ⟨t8, rfl⟩
  try dsimp only
  have h2 := itemF sh hsp ⟨i, hi⟩
  dsimp only at h2
  rw [hpm]
  k_with "call ref" => refine hold ?_
  k_steps
  unfold Hold
  k_with_none
  rename Fr _ _ _ _ => F9
  rename News _ _ _ _ => N9
  refine use (pc_getF w (ltrs.idxOf (sh.getD i 0)) _ _ (idxF _ h2.2)) B F9 N9 X T rfl rfl (room1 hd (by decide)) (room3 hu (by decide)) trivial ?_
  rintro v h10 tk10 F10 N10 _ ⟨t10, rfl⟩
  try dsimp only
  rw [getD_idxF _ h2.2]
  k_with "call builtin:list.append" => refine hold ?_
  k_steps
  unfold Hold
  k_with_none
  refine append_led (ha := va) (arr := vvs.toArray) (n := vn) (rest := [(it, io), (ha, W.listOf hvs.toArray hn), (na, W.listOf nvs.toArray n), (oa, W.listOf ovs.toArray k), (L + 1 + 1, c2), (L + 1 + 1 + 1, c3), (L + 1 + 1 + 1 + 1, c4), (L + 1 + 1 + 1 + 1 + 1, c5), (L + 1 + 1 + 1 + 1 + 1 + 1, c6)]) F10 (newsSub N10 (by kst_in)) ?_ ?_ fun h8 F8 N8 => ?_
  · obtain ⟨e1, e2, e3, e4⟩ := hap
    refine all1 ?_ (all1 ?_ (all1 ?_ (all1 ?_ (all1 ?_ (all1 ?_ (all1 ?_ (all1 ?_ (all1 ?_ all0))))))))
    · exact Ne.symm e1
    · exact Ne.symm e2
    · exact Ne.symm e3
    · exact Ne.symm e4
    · exact Ne.symm hg.1
    · exact Ne.symm hg.2.1
    · exact Ne.symm hg.2.2.1
    · exact Ne.symm hg.2.2.2.1
    · exact Ne.symm hg.2.2.2.2
  · rw [List.size_toArray]; exact Nat.le_trans hvl (by decide)
  · refine hQ0 _ _ ⟨_, _, _, _, rfl, rfl, F8, N8, fun z hz => kstB_self hkk, t10, vn + 1, ?_⟩
    rw [show (vvs ++ [Value.str (st1 (sh.getD i 0)) t10]).toArray = vvs.toArray.push (Value.str (st1 (sh.getD i 0)) t10) by simp]
    kst_in
end Wr50
end
section
set_option maxRecDepth 100000
set_option maxHeartbeats 4000000
namespace Wr50
open PySem PySem.W PySem.Calls PyProof.Rows
theorem one_off {z x : PySem.Str} (h : z ≠ x) : [x].contains z = false := by simp [h]
theorem portN_ok (n4 c i : Nat) (hc : c ∈ ltrs) (hi : i < 4) : (-100000 < portN n4 c i ∧ portN n4 c i < 100000) ∧ portN n4 c i % 4 = (ltrs.idxOf c : Int) := by
  have h1 := idxF c hc
  have h2 : n4 / 24 % 1000 < 1000 := Nat.mod_lt _ (by decide)
  unfold portN
  generalize n4 / 24 % 1000 = a at h2
  generalize ltrs.idxOf c = b at h1
  omega
theorem port_turn : ∀ (w : World) (nn sh : List Nat) (_ : nn.length = 6) (_ : sh ∈ perms4) (i : Nat) (_ : i < 4) (tsh : Tok) (dp un : Nat) (gd : Option (List Code)) (frs : List Env) (base g : Heap) (mean : ExcName → Option Value) (mg mb : PySem.Str → Option Value)
   (_ : Below (ar dp un gd frs) base frs g) (_ : (KF w.params).In g) (_ : Top qv lo mean mg mb g) (_ : dp + 10 < recursionLimit) (_ : un + 200 < cLine)
   (L : Addr) (it va ha na oa : Addr) (io : Obj) (vvs hvs nvs ovs : List Value) (vn hn n k : Nat) (c2 c3 c4 c5 c6 : Obj) (tk2 : Tok) (_ : c2.data = .cell (some (.int (i : Nat) tk2))) (_ : vvs.length ≤ 4) (_ : c5.data = .cell (some (.ref va))) (_ : (@Ne Nat va it) ∧ (@Ne Nat va ha) ∧ (@Ne Nat va na) ∧ (@Ne Nat va oa)) (_ : CellsOff L va) (_ : IntsAre nvs (natL nn)) (s : Shared) (E : Value → Shared → Prop) (m : PySem.Str → Option Value) (_ : m (Str.ofString "numbers") = some (.ref na)) (_ : m (Str.ofString "shared") = some (.str (stL sh) tsh))
   (_ : Fr g L s.heap m) (_ : News g L s.heap [(it, io), (va, W.listOf vvs.toArray vn), (ha, W.listOf hvs.toArray hn), (na, W.listOf nvs.toArray n), (oa, W.listOf ovs.toArray k), (L + 1 + 1, c2), (L + 1 + 1 + 1, c3), (L + 1 + 1 + 1 + 1, c4), (L + 1 + 1 + 1 + 1 + 1, c5), (L + 1 + 1 + 1 + 1 + 1 + 1, c6)])
   (_ : PassesOwn (model PySem.Challenge.rw_wr0050_01.prog w) ((ar dp un gd frs).deeper (env26 L)) (env26 L) E),
   wpAny (model PySem.Challenge.rw_wr0050_01.prog w) ((ar dp un gd frs).deeper (env26 L)) (execs fb26b.1 (env26 L))
       (TurnW s g L m [Str.ofString "port", Str.ofString "mark", Str.ofString "answer"] (fun m' nw' => ∃ t vn', ∀ p ∈ [(it, io), (va, W.listOf (vvs ++ [Value.str (st1 (sh.getD i 0)) t]).toArray vn'), (ha, W.listOf hvs.toArray hn), (na, W.listOf nvs.toArray n), (oa, W.listOf ovs.toArray k), (L + 1 + 1, c2), (L + 1 + 1 + 1, c3), (L + 1 + 1 + 1 + 1, c4), (L + 1 + 1 + 1 + 1 + 1, c5), (L + 1 + 1 + 1 + 1 + 1 + 1, c6)], p ∈ nw')) E s := by
  k_fill
  intro w nn sh hnl hsp i hi tsh dp un gd frs base g mean mg mb B X T hd hu L it va ha na oa io vvs hvs nvs ovs vn hn n k c2 c3 c4 c5 c6 tk2 hc2 hvl hc5 hap hg hni s E m hmn hms F N hE
  refine hideQ ?_
  intro Q0 hQ0
  have h2 := (itemF sh hsp ⟨i, hi⟩).2
  dsimp only at h2
  have hpo := portN_ok (nn.getD 4 0) (sh.getD i 0) i h2 hi
  show wpAny _ _ (execs [g0.1, g1.1, g2.1, g3.1, g4.1] (env26 L)) _ _ _
  refine wpAny_execs_cons (turn_go (port_a w nn sh hnl hsp i hi tsh dp un gd frs base g mean mg mb B X T hd hu L it va ha na oa io vvs hvs nvs ovs vn hn n k c2 c3 c4 c5 c6 tk2 hc2 hni s E m hmn hms F N hE) fun h1 k1 m1 nw1 F1 N1 hs1 q => ?_)
  show wpAny _ _ (execs _ _) _ _ ⟨h1, s.gens, s.drawn, k1, s.os⟩
  obtain ⟨tp, hp1, hsub1⟩ := q
  have N1' := newsSub N1 hsub1
  refine wpAny_execs_cons (turn_go (port_b w nn hnl i hi dp un gd frs base g mean mg mb B X T hd hu L it va ha na oa io vvs hvs nvs ovs vn hn n k c2 c3 c4 c5 c6 tk2 hc2 hni ⟨_, _, _, _, _⟩ E m1 ?_ F1 N1' hE) fun h2 k2 m2 nw2 F2 N2 hs2 q => ?_)
  · exact (hs1 _ (by decide)).trans hmn
  show wpAny _ _ (execs _ _) _ _ ⟨h2, s.gens, s.drawn, k2, s.os⟩
  obtain ⟨tm, mk, hmk, hm2, hsub2⟩ := q
  have N2' := newsSub N2 hsub2
  refine wpAny_execs_cons (turn_go (port_c w i hi mk hmk _ hpo.1 tm tp dp un gd frs base g mean mg mb B X T hd hu L it va ha na oa io vvs hvs nvs ovs vn hn n k c2 c3 c4 c5 c6 tk2 hc2 ⟨_, _, _, _, _⟩ E m2 hm2 ?_ F2 N2' hE) fun h3 k3 m3 nw3 F3 N3 hs3 q => ?_)
  · exact (hs2 _ (by decide)).trans hp1
  show wpAny _ _ (execs _ _) _ _ ⟨h3, s.gens, s.drawn, k3, s.os⟩
  obtain ⟨aa, ao, t1, t2, c, hm3, ha1, ha2, hsub3⟩ := q
  have N3' := newsSub N3 hsub3
  refine wpAny_execs_cons (turn_go (port_d w sh hsp i hi _ hpo.2 tp tsh t1 t2 c dp un gd frs base g mean mg mb B X T hd hu L aa ao ha1 ha2 it va ha na oa io vvs hvs nvs ovs vn hn n k c2 c3 c4 c5 c6 tk2 hc2 ⟨_, _, _, _, _⟩ E m3 hm3 ?_ ?_ F3 N3' hE) fun h4 k4 m4 nw4 F4 N4 hs4 q => ?_)
  · exact (hs3 _ (by decide)).trans ((hs2 _ (by decide)).trans hp1)
  · exact (hs3 _ (by decide)).trans ((hs2 _ (by decide)).trans ((hs1 _ (by decide)).trans hms))
  show wpAny _ _ (execs _ _) _ _ ⟨h4, s.gens, s.drawn, k4, s.os⟩
  have hsub4 := q
  have N4' := newsSub N4 hsub4
  refine wpAny_execs_cons (turn_go (port_e w sh hsp i hi _ hpo.2 t1 t2 c dp un gd frs base g mean mg mb B X T hd hu L aa ao ha1 ha2 it va ha na oa io vvs hvs nvs ovs vn hn n k c2 c3 c4 c5 c6 tk2 hc2 hvl hc5 hap hg ⟨_, _, _, _, _⟩ E m4 ?_ F4 N4' hE) fun h5 k5 m5 nw5 F5 N5 hs5 q => ?_)
  · exact (hs4 _ rfl).trans hm3
  show wpAny _ _ (execs _ _) _ _ ⟨h5, s.gens, s.drawn, k5, s.os⟩
  obtain ⟨t5, vn5, hsub5⟩ := q
  refine wpAny_execs_nil (hQ0 _ _ ⟨h5, k5, m5, nw5, rfl, rfl, F5, N5, fun z hz => ?_, t5, vn5, hsub5⟩)
  have hz1 : z ≠ Str.ofString "port" := fun e => by rw [e] at hz; revert hz; decide
  have hz2 : z ≠ Str.ofString "mark" := fun e => by rw [e] at hz; revert hz; decide
  have hz3 : z ≠ Str.ofString "answer" := fun e => by rw [e] at hz; revert hz; decide
  exact (hs5 z rfl).trans ((hs4 z rfl).trans ((hs3 z (one_off hz3)).trans ((hs2 z (one_off hz2)).trans (hs1 z (one_off hz1)))))
@[reducible] noncomputable def q9 : { l : Stmt // l = b26.1.getD 9 st0 } := by
  apply cap
  conv => rhs; whnf
theorem port_loop : ∀ (w : World) (nn sh : List Nat) (_ : nn.length = 6) (_ : sh ∈ perms4) (tsh : Tok) (dp un : Nat) (gd : Option (List Code)) (frs : List Env) (base g : Heap) (mean : ExcName → Option Value) (mg mb : PySem.Str → Option Value)
   (_ : Below (ar dp un gd frs) base frs g) (_ : (KF w.params).In g) (_ : Top qv lo mean mg mb g) (_ : dp + 10 < recursionLimit) (_ : un + 200 < cLine)
   (L : Addr) (va ha na oa : Addr) (hvs nvs ovs : List Value) (vn hn n k : Nat) (c2 c3 c4 c5 c6 : Obj) (v2 : Option Value) (_ : c2.data = .cell v2) (_ : c5.data = .cell (some (.ref va))) (_ : (@Ne Nat va ha) ∧ (@Ne Nat va na) ∧ (@Ne Nat va oa)) (_ : CellsOff L va) (_ : IntsAre nvs (natL nn)) (s : Shared) (E : Value → Shared → Prop) (m : PySem.Str → Option Value) (_ : m (Str.ofString "numbers") = some (.ref na)) (_ : m (Str.ofString "shared") = some (.str (stL sh) tsh))
   (_ : Fr g L s.heap m) (_ : News g L s.heap [(va, W.listOf #[] vn), (ha, W.listOf hvs.toArray hn), (na, W.listOf nvs.toArray n), (oa, W.listOf ovs.toArray k), (L + 1 + 1, c2), (L + 1 + 1 + 1, c3), (L + 1 + 1 + 1 + 1, c4), (L + 1 + 1 + 1 + 1 + 1, c5), (L + 1 + 1 + 1 + 1 + 1 + 1, c6)])
   (_ : PassesOwn (model PySem.Challenge.rw_wr0050_01.prog w) ((ar dp un gd frs).deeper (env26 L)) (env26 L) E),
   wpAny (model PySem.Challenge.rw_wr0050_01.prog w) ((ar dp un gd frs).deeper (env26 L)) (exec q9.1 (env26 L))
       (TurnW s g L m [Str.ofString "port", Str.ofString "mark", Str.ofString "answer"] (fun m' nw' => ∃ vvs' vn' c2', StrsAre vvs' (sh.map st1) ∧ (∃ v, c2'.data = .cell v) ∧ ∀ p ∈ [(va, W.listOf vvs'.toArray vn'), (ha, W.listOf hvs.toArray hn), (na, W.listOf nvs.toArray n), (oa, W.listOf ovs.toArray k), (L + 1 + 1, c2'), (L + 1 + 1 + 1, c3), (L + 1 + 1 + 1 + 1, c4), (L + 1 + 1 + 1 + 1 + 1, c5), (L + 1 + 1 + 1 + 1 + 1 + 1, c6)], p ∈ nw')) E s := by
  k_fill
  intro w nn sh hnl hsp tsh dp un gd frs base g mean mg mb B X T hd hu L va ha na oa hvs nvs ovs vn hn n k c2 c3 c4 c5 c6 v2 hc2 hc5 hap hg hni s E m hmn hms F N hE
  refine hideQ ?_
  intro Q0 hQ0
  have hsl := perms4_len4 _ hsp
  refine wpAny_For ?_
  k_with "pyIter ref" => refine hold ?_
  k_steps
  unfold Hold
  k_with_none
  rename Fr _ _ _ _ => F1
  rename News _ _ _ _ => N1
  rename IsRange _ _ _ _ _ _ _ _ => hrg
  refine for_range (σ := List Value × Nat × Obj) (n := 4) 0 [va, ha, na, oa, L + 1 + 1, L + 1 + 1 + 1, L + 1 + 1 + 1 + 1, L + 1 + 1 + 1 + 1 + 1, L + 1 + 1 + 1 + 1 + 1 + 1] (fun c => [(va, W.listOf c.1.toArray c.2.1), (ha, W.listOf hvs.toArray hn), (na, W.listOf nvs.toArray n), (oa, W.listOf ovs.toArray k), (L + 1 + 1, c.2.2), (L + 1 + 1 + 1, c3), (L + 1 + 1 + 1 + 1, c4), (L + 1 + 1 + 1 + 1 + 1, c5), (L + 1 + 1 + 1 + 1 + 1 + 1, c6)]) (fun _ => []) [Str.ofString "port", Str.ofString "mark", Str.ofString "answer"]
    (fun i c => StrsAre c.1 ((sh.take i).map st1) ∧ ∃ v, c.2.2.data = .cell v) ([], vn, c2) (by rfl) hrg (by decide) (Nat.zero_le _) F1 N1 (fun p hp => nomatch hp) ⟨.nil, v2, hc2⟩ ?_ ?_ ?_ ?_ hE
  · exact fun c => all1 (.head _) (all1 (.tail _ (.head _)) (all1 (.tail _ (.tail _ (.head _))) (all1 (.tail _ (.tail _ (.tail _ (.head _)))) (all1 (.tail _ (.tail _ (.tail _ (.tail _ (.head _))))) (all1 (.tail _ (.tail _ (.tail _ (.tail _ (.tail _ (.head _)))))) (all1 (.tail _ (.tail _ (.tail _ (.tail _ (.tail _ (.tail _ (.head _))))))) (all1 (.tail _ (.tail _ (.tail _ (.tail _ (.tail _ (.tail _ (.tail _ (.head _)))))))) (all1 (.tail _ (.tail _ (.tail _ (.tail _ (.tail _ (.tail _ (.tail _ (.tail _ (.head _))))))))) all0))))))))
  · refine all1 ?_ (all1 ?_ (all1 ?_ (all1 ?_ (all1 ?_ (all1 ?_ (all1 ?_ (all1 ?_ (all1 ?_ all0))))))))
    · exact ⟨_, .head _⟩
    · exact ⟨_, .tail _ (.head _)⟩
    · exact ⟨_, .tail _ (.tail _ (.head _))⟩
    · exact ⟨_, .tail _ (.tail _ (.tail _ (.head _)))⟩
    · exact ⟨_, .tail _ (.tail _ (.tail _ (.tail _ (.head _))))⟩
    · exact ⟨_, .tail _ (.tail _ (.tail _ (.tail _ (.tail _ (.head _)))))⟩
    · exact ⟨_, .tail _ (.tail _ (.tail _ (.tail _ (.tail _ (.tail _ (.head _))))))⟩
    · exact ⟨_, .tail _ (.tail _ (.tail _ (.tail _ (.tail _ (.tail _ (.tail _ (.head _)))))))⟩
    · exact ⟨_, .tail _ (.tail _ (.tail _ (.tail _ (.tail _ (.tail _ (.tail _ (.tail _ (.head _))))))))⟩
  · rintro i t ⟨vvs, vn1, c2'⟩ u h tk it io hi ⟨hvl, v2', hc2'⟩ _ hit F2 N2
    dsimp only at hvl hc2' N2 ⊢
    have hitk : (@Ne Nat it (L + 1 + 1)) := fun e => hit (by rw [e]; simp)
    have hith : (@Ne Nat va it) := fun e => hit (by rw [← e]; exact .head _)
    have hhl : vvs.length ≤ 4 := by rw [hvl.length, List.length_map, List.length_take]; omega
    have hmc : (L + 1 + 1, c2') ∈ (it, io) :: [(va, W.listOf vvs.toArray vn1), (ha, W.listOf hvs.toArray hn), (na, W.listOf nvs.toArray n), (oa, W.listOf ovs.toArray k), (L + 1 + 1, c2'), (L + 1 + 1 + 1, c3), (L + 1 + 1 + 1 + 1, c4), (L + 1 + 1 + 1 + 1 + 1, c5), (L + 1 + 1 + 1 + 1 + 1 + 1, c6)] := (by repeat (first | exact List.mem_cons_self | apply List.mem_cons_of_mem))
    refine wpAny_assign_Name ?_
    refine storeX_C F2 (newsSub (nw := (L + 1 + 1, c2') :: [(it, io), (va, W.listOf vvs.toArray vn1), (ha, W.listOf hvs.toArray hn), (na, W.listOf nvs.toArray n), (oa, W.listOf ovs.toArray k), (L + 1 + 1 + 1, c3), (L + 1 + 1 + 1 + 1, c4), (L + 1 + 1 + 1 + 1 + 1, c5), (L + 1 + 1 + 1 + 1 + 1 + 1, c6)]) N2 (by kst_in)) rfl (.head ?_) hc2' fun h9 o9 F9 N9 d9 => ?_
    · refine all1 ?_ (all1 ?_ (all1 ?_ (all1 ?_ (all1 ?_ (all1 ?_ (all1 ?_ (all1 ?_ (all1 ?_ all0))))))))
      · exact hitk
      · exact hg.1
      · exact cell_ne N2 (n := hn) (arr := hvs.toArray) (by repeat (first | exact List.mem_cons_self | apply List.mem_cons_of_mem)) hmc hc2'
      · exact cell_ne N2 (n := n) (arr := nvs.toArray) (by repeat (first | exact List.mem_cons_self | apply List.mem_cons_of_mem)) hmc hc2'
      · exact cell_ne N2 (n := k) (arr := ovs.toArray) (by repeat (first | exact List.mem_cons_self | apply List.mem_cons_of_mem)) hmc hc2'
      · exact Nat.ne_of_gt (Nat.lt_succ_self _)
      · exact Nat.ne_of_gt (Nat.lt_succ_of_lt (Nat.lt_succ_self _))
      · exact Nat.ne_of_gt (Nat.lt_succ_of_lt (Nat.lt_succ_of_lt (Nat.lt_succ_self _)))
      · exact Nat.ne_of_gt (Nat.lt_succ_of_lt (Nat.lt_succ_of_lt (Nat.lt_succ_of_lt (Nat.lt_succ_self _))))
    show wpAny _ _ (execs fb26b.1 (env26 L)) _ _ _
    refine wpAny_mono (port_turn w nn sh hnl hsp i hi tsh dp un gd frs base g mean mg mb B X T hd hu L it va ha na oa io vvs hvs nvs ovs vn1 hn n k o9 c3 c4 c5 c6 t d9 hhl hc5 ⟨hith, hap⟩ hg hni ⟨_, _, _, _, _⟩ E _ ?n1 ?n2 F9 (newsSub N9 (by kst_in)) hE) (fun fl s9 q => ?_) fun _ _ x => x
    case n1 => exact hmn
    case n2 => exact hms
    obtain ⟨h5, k5, m5, nw5, rfl, rfl, F5, N5, hs5, t5, vn5, hsub⟩ := q
    show ForEnd _ _ _ _ _ _ _ _ _ _
    have hio : sh[i]? = some (sh.getD i 0) := by rw [List.getD_eq_getElem?_getD, List.getElem?_eq_getElem (by omega)]; rfl
    refine for_end (its := [(it, io)]) (vvs ++ [Value.str (st1 (sh.getD i 0)) t5], vn5, o9) F5 N5 hsub (fun p hp => nomatch hp) (fun z _ hz => (hs5 z hz).trans ?_) ⟨?_, _, d9⟩
    · show (if _ then _ else _) = _
      rw [hz]; rfl
    · rw [take_succ_get hio, List.map_append]
      exact strs_one hvl
  · rintro ⟨vvs, vn1, c2'⟩ u h tk ⟨hvl, v2', hc2'⟩ _ F2 N2
    rw [← hsl, List.take_length] at hvl
    refine wpAny_execs_nil (hQ0 _ _ ⟨h, tk, _, _, rfl, rfl, F2, N2, fun z hz => ?_, vvs, vn1, c2', hvl, ⟨v2', hc2'⟩, fun p hp => hp⟩)
    show (if _ then _ else _) = _
    rw [hz]; rfl
end Wr50
end
section
set_option maxRecDepth 100000
set_option maxHeartbeats 4000000
namespace Wr50
open PySem PySem.W PySem.Calls PyProof.Rows
theorem news_new {g h h' : Heap} {L : Addr} {m m' : PySem.Str → Option Value} {nw : List (Addr × Obj)} {a : Addr} {o : Obj} (F : Fr g L h m) (F' : Fr g L h' m') (N : News g L h' nw) (hn : h.get? a = none) (ha : h'.get? a = some o) : News g L h' ((a, o) :: nw) := fun p hp => by
  rcases List.mem_cons.mp hp with rfl | hp
  · refine ⟨ha, ?_, ?_⟩
    · rintro rfl
      obtain ⟨oC, heC, _⟩ := LCg.ns_obj F.ns
      rw [hn] at heC; cases heC
    · cases e : g.get? a with
      | none => rfl
      | some o' => have := F.keep _ _ e; rw [hn] at this; cases this
  · exact N p hp
@[reducible] noncomputable def q10 : { l : Stmt // l = b26.1.getD 10 st0 } := by
  apply cap
  conv => rhs; whnf
theorem law_10 : ∀ (w : World) (os : List (List Nat)) (_ : os.length = 5) (_ : ∀ o ∈ os, o ∈ perms4) (dp un : Nat) (gd : Option (List Code)) (frs : List Env) (base g : Heap) (mean : ExcName → Option Value) (mg mb : PySem.Str → Option Value)
   (_ : Below (ar dp un gd frs) base frs g) (_ : (KF w.params).In g) (_ : Top qv lo mean mg mb g) (_ : dp + 10 < recursionLimit) (_ : un + 200 < cLine)
   (L : Addr) (va ha na oa : Addr) (vvs hvs nvs ovs : List Value) (vn hn n k : Nat) (c2 c3 c4 c5 c6 : Obj) (v6 : Option Value) (_ : c6.data = .cell v6) (_ : c4.data = .cell (some (.ref ha))) (_ : StrsAre hvs (os.map stL)) (s : Shared) (E : Value → Shared → Prop) (m : PySem.Str → Option Value)
   (_ : Fr g L s.heap m) (_ : News g L s.heap [(va, W.listOf vvs.toArray vn), (ha, W.listOf hvs.toArray hn), (na, W.listOf nvs.toArray n), (oa, W.listOf ovs.toArray k), (L + 1 + 1, c2), (L + 1 + 1 + 1, c3), (L + 1 + 1 + 1 + 1, c4), (L + 1 + 1 + 1 + 1 + 1, c5), (L + 1 + 1 + 1 + 1 + 1 + 1, c6)])
   (_ : PassesOwn (model PySem.Challenge.rw_wr0050_01.prog w) ((ar dp un gd frs).deeper (env26 L)) (env26 L) E),
   wpAny (model PySem.Challenge.rw_wr0050_01.prog w) ((ar dp un gd frs).deeper (env26 L)) (exec q10.1 (env26 L))
       (TurnW s g L m [] (fun m' nw' => ∃ ta gvs tn gs σ ρ r c6', c6'.data = .cell (some (.ref ta)) ∧ StrsAre gvs gs ∧ Part (os.take 4) [] gs σ ρ r ∧ ∀ p ∈ [(ta, W.listOf gvs.toArray tn), (va, W.listOf vvs.toArray vn), (ha, W.listOf hvs.toArray hn), (na, W.listOf nvs.toArray n), (oa, W.listOf ovs.toArray k), (L + 1 + 1, c2), (L + 1 + 1 + 1, c3), (L + 1 + 1 + 1 + 1, c4), (L + 1 + 1 + 1 + 1 + 1, c5), (L + 1 + 1 + 1 + 1 + 1 + 1, c6')], p ∈ nw')) E s := by
  k_fill
  intro w os hol hop dp un gd frs base g mean mg mb B X T hd hu L va ha na oa vvs hvs nvs ovs vn hn n k c2 c3 c4 c5 c6 v6 hc6 hc4 hhs s E m F N hE
  refine hideQ ?_
  intro Q0 hQ0
  have hhl : hvs.length = 5 := by rw [hhs.length, List.length_map, hol]
  k_with "call ref" => refine hold ?_
  k_steps
  unfold Hold
  k_with_none
  rename Fr _ _ _ _ => F1
  rename News _ _ _ _ => N1
  have hsl : slicePick hvs.toArray none (some 4) none = (hvs.take 4).toArray := by
    rw [kmk_pick_nat hvs.toArray (a := 0) (b := 4) (by rw [List.size_toArray, hhl]; decide)]
    rfl
  rw [hsl] at N1
  have hst : StrsAre (hvs.take 4) ((os.take 4).map stL) := by rw [List.map_take]; exact StrsAre.take' hhs 4
  refine useT (ps_traded w (os.take 4) (by rw [List.length_take, hol]; rfl) (fun o ho => hop o (List.mem_of_mem_take ho)) _).toT B F1 N1 X T rfl rfl (room1 hd (by decide)) (room3 hu (by decide)) ⟨Nat.succ_pos _, _, News.isList N1 (.head _), hst⟩ ?_
  rintro v h5 tk5 F5 N5 _ ⟨ta, gvs, tn, gs, σ, ρ, r, rfl, hn5, hg5, hgs, hpt⟩ _
  have N6 := news_new F1 F5 (newsSub (nw := [(va, W.listOf vvs.toArray vn), (ha, W.listOf hvs.toArray hn), (na, W.listOf nvs.toArray n), (oa, W.listOf ovs.toArray k), (L + 1 + 1, c2), (L + 1 + 1 + 1, c3), (L + 1 + 1 + 1 + 1, c4), (L + 1 + 1 + 1 + 1 + 1, c5), (L + 1 + 1 + 1 + 1 + 1 + 1, c6)]) N5 (by kst_in)) hn5 hg5
  have hL4 : ∀ p ∈ [(ta, W.listOf gvs.toArray tn), (va, W.listOf vvs.toArray vn), (ha, W.listOf hvs.toArray hn), (na, W.listOf nvs.toArray n), (oa, W.listOf ovs.toArray k), (L + 1 + 1, c2), (L + 1 + 1 + 1, c3), (L + 1 + 1 + 1 + 1, c4), (L + 1 + 1 + 1 + 1 + 1, c5)], p.1 ≠ L + 1 + 1 + 1 + 1 + 1 + 1 := by
    refine all1 ?_ (all1 ?_ (all1 ?_ (all1 ?_ (all1 ?_ (all1 ?_ (all1 ?_ (all1 ?_ (all1 ?_ all0))))))))
    · exact cell_ne N6 (n := tn) (arr := gvs.toArray) (by repeat (first | exact List.mem_cons_self | apply List.mem_cons_of_mem)) (by repeat (first | exact List.mem_cons_self | apply List.mem_cons_of_mem)) hc6
    · exact cell_ne N6 (n := vn) (arr := vvs.toArray) (by repeat (first | exact List.mem_cons_self | apply List.mem_cons_of_mem)) (by repeat (first | exact List.mem_cons_self | apply List.mem_cons_of_mem)) hc6
    · exact cell_ne N6 (n := hn) (arr := hvs.toArray) (by repeat (first | exact List.mem_cons_self | apply List.mem_cons_of_mem)) (by repeat (first | exact List.mem_cons_self | apply List.mem_cons_of_mem)) hc6
    · exact cell_ne N6 (n := n) (arr := nvs.toArray) (by repeat (first | exact List.mem_cons_self | apply List.mem_cons_of_mem)) (by repeat (first | exact List.mem_cons_self | apply List.mem_cons_of_mem)) hc6
    · exact cell_ne N6 (n := k) (arr := ovs.toArray) (by repeat (first | exact List.mem_cons_self | apply List.mem_cons_of_mem)) (by repeat (first | exact List.mem_cons_self | apply List.mem_cons_of_mem)) hc6
    · exact Nat.ne_of_lt (Nat.lt_succ_of_lt (Nat.lt_succ_of_lt (Nat.lt_succ_of_lt (Nat.lt_succ_self _))))
    · exact Nat.ne_of_lt (Nat.lt_succ_of_lt (Nat.lt_succ_of_lt (Nat.lt_succ_self _)))
    · exact Nat.ne_of_lt (Nat.lt_succ_of_lt (Nat.lt_succ_self _))
    · exact Nat.ne_of_lt (Nat.lt_succ_self _)
  refine storeX_C F5 (newsSub (nw := (L + 1 + 1 + 1 + 1 + 1 + 1, c6) :: [(ta, W.listOf gvs.toArray tn), (va, W.listOf vvs.toArray vn), (ha, W.listOf hvs.toArray hn), (na, W.listOf nvs.toArray n), (oa, W.listOf ovs.toArray k), (L + 1 + 1, c2), (L + 1 + 1 + 1, c3), (L + 1 + 1 + 1 + 1, c4), (L + 1 + 1 + 1 + 1 + 1, c5)]) N6 (by kst_in)) rfl (.head hL4) hc6 fun h9 o9 F9 N9 d9 => ?_
  exact hQ0 _ _ ⟨_, _, _, _, rfl, rfl, F9, N9, fun z hz => rfl, ta, gvs, tn, gs, σ, ρ, r, o9, d9, hgs, hpt, by kst_in⟩
end Wr50
end
section
set_option maxRecDepth 100000
set_option maxHeartbeats 4000000
namespace Wr50
open PySem PySem.W PySem.Calls PyProof.Rows
@[reducible] noncomputable def q11 : { l : Stmt // l = b26.1.getD 11 st0 } := by
  apply cap
  conv => rhs; whnf
/-- the folders a client likes better than his own -/
noncomputable def pre1 (os : List (List Nat)) (gl : List Nat) (k : Nat) : List Nat := (os.getD k []).take ((os.getD k []).idxOf (gl.getD k 0))
noncomputable def prefs (os : List (List Nat)) (gl : List Nat) (i : Nat) : List (List Nat) := (List.range i).map (pre1 os gl)
theorem perms4_128 : ∀ o ∈ perms4, ∀ x ∈ o, x < 128 := by decide
theorem slice_find : ∀ o ∈ perms4, ∀ c ∈ ltrs, Txt.slice (stL o) none (some (Txt.find (stL o) (st1 c))) = stL (o.take (o.idxOf c)) := by decide +kernel
theorem law_11 : ∀ (w : World) (os : List (List Nat)) (_ : os.length = 4) (_ : ∀ o ∈ os, o ∈ perms4) (gl : List Nat) (_ : gl.length = 4) (_ : ∀ c ∈ gl, c ∈ ltrs) (_ : bett gl (prefs os gl 4) = false) (dp un : Nat) (gd : Option (List Code)) (frs : List Env) (base g : Heap) (mean : ExcName → Option Value) (mg mb : PySem.Str → Option Value)
   (_ : Below (ar dp un gd frs) base frs g) (_ : (KF w.params).In g) (_ : Top qv lo mean mg mb g) (_ : dp + 10 < recursionLimit) (_ : un + 200 < cLine)
   (L : Addr) (ta va ha na oa : Addr) (gvs vvs hvs nvs ovs : List Value) (tn vn hn n k : Nat) (c2 c3 c4 c5 c6 : Obj) (_ : c3.data = .cell (some (.ref oa))) (_ : c6.data = .cell (some (.ref ta))) (_ : StrsAre ovs (os.map stL)) (_ : StrsAre gvs (gl.map st1)) (s : Shared) (E : Value → Shared → Prop) (m : PySem.Str → Option Value) 
   (_ : Fr g L s.heap m) (_ : News g L s.heap [(ta, W.listOf gvs.toArray tn), (va, W.listOf vvs.toArray vn), (ha, W.listOf hvs.toArray hn), (na, W.listOf nvs.toArray n), (oa, W.listOf ovs.toArray k), (L + 1 + 1, c2), (L + 1 + 1 + 1, c3), (L + 1 + 1 + 1 + 1, c4), (L + 1 + 1 + 1 + 1 + 1, c5), (L + 1 + 1 + 1 + 1 + 1 + 1, c6)])
   (_ : PassesOwn (model PySem.Challenge.rw_wr0050_01.prog w) ((ar dp un gd frs).deeper (env26 L)) (env26 L) E),
   wpAny (model PySem.Challenge.rw_wr0050_01.prog w) ((ar dp un gd frs).deeper (env26 L)) (exec q11.1 (env26 L))
       (TurnW s g L m [] (fun m' nw' => ∀ p ∈ [(ta, W.listOf gvs.toArray tn), (va, W.listOf vvs.toArray vn), (ha, W.listOf hvs.toArray hn), (na, W.listOf nvs.toArray n), (oa, W.listOf ovs.toArray k), (L + 1 + 1, c2), (L + 1 + 1 + 1, c3), (L + 1 + 1 + 1 + 1, c4), (L + 1 + 1 + 1 + 1 + 1, c5), (L + 1 + 1 + 1 + 1 + 1 + 1, c6)], p ∈ nw')) E s := by
  k_fill
  intro w os hol hop gl hgl hgm hbe dp un gd frs base g mean mg mb B X T hd hu L ta va ha na oa gvs vvs hvs nvs ovs tn vn hn n k c2 c3 c4 c5 c6 hc3 hc6 hso hsg s E m  F N hE
  refine hideQ ?_
  intro Q0 hQ0
  have hvl : ovs.length = 4 := by rw [hso.length, List.length_map, hol]
  have hgl2 : gvs.length = 4 := by rw [hsg.length, List.length_map, hgl]
  iterate 8 walk1
  refine ListComp_any F (by with_unfolding_all rfl) (by rfl) (by decide) ?_
  k_with "pyIter ref" => refine hold ?_
  k_steps
  unfold Hold
  k_with_none
  rename Fr _ _ _ _ => F2
  rename News _ _ _ _ => N2
  rename IsRange _ _ _ _ _ _ _ _ => hrg
  refine comp_range (n := 4) (fun i ys => StrsAre ys ((prefs os gl i).map stL)) (by rfl) hrg (by decide) (by rfl) (by simp only [sizeLine_eq]; decide) (by decide) (by rfl) (by rfl) F2 N2 .nil ?fin ?step
  case step =>
    intro i ys t hi hyl hJ I oI C oC D m₂ h tk E' hm2 hoC F3 N3 hoff
    refine wpAny_tests_nil ?_
    simp only [if_true]
    have hom : os.getD i [] ∈ os := by rw [List.getD_eq_getElem?_getD, List.getElem?_eq_getElem (by omega)]; exact List.getElem_mem _
    have hcm : gl.getD i 0 ∈ gl := by rw [List.getD_eq_getElem?_getD, List.getElem?_eq_getElem (by omega)]; exact List.getElem_mem _
    have e1 := getD_st1 (gl := gl) (i := i) (by omega)
    have e2 := getD_stL (ml := os) (i := i) (by omega)
    have hmi : (stL (os.getD i [])).length ≤ 4 := by show (os.getD i []).toArray.size ≤ 4; rw [List.size_toArray]; exact perms4_len _ (hop _ hom)
    rw [← e2, show i = ((i : Int)).toNat from (Int.toNat_natCast i).symm] at hmi
    have hgi : ((gl.map st1).getD i PySem.Str.empty).length ≤ 1 := by rw [e1]; exact Nat.le_refl _
    rw [show i = ((i : Int)).toNat from (Int.toNat_natCast i).symm] at hgi
    k_steps
    refine ⟨_, _, rfl, by assumption, by assumption, ?_⟩
    dsimp only
    rw [Int.toNat_natCast, e1, e2, slice_find _ (hop _ hom) _ (hgm _ hcm)]
    rw [show (prefs os gl (i + 1)).map stL = (prefs os gl i).map stL ++ [stL ((os.getD i []).take ((os.getD i []).idxOf (gl.getD i 0)))] by rw [prefs, List.range_succ, List.map_append, List.map_append]; rfl]
    exact strs_one hJ
  case fin =>
    intro g5 ys hys D h tk F3 N3 hoff
    dsimp only
    k_with "call ref" => refine hold ?_
    k_steps
    unfold Hold
    k_with_none
    rename Fr _ _ _ _ => F4
    rename News _ _ _ _ => N4
    refine useT (ps_bett w ta D gl (prefs os gl 4) hgl (by simp [prefs]) ?_ ?_).toT B F4 N4 X T rfl rfl (room1 hd (by decide)) (room3 hu (by decide)) ⟨⟨_, News.isList N4 (.tail _ (.head _)), hsg⟩, _, News.isList N4 (.head _), hys⟩ ?_
    · intro p hp
      obtain ⟨j, hj, rfl⟩ := List.mem_map.mp hp
      have hj4 := List.mem_range.mp hj
      have hom : os.getD j [] ∈ os := by rw [List.getD_eq_getElem?_getD, List.getElem?_eq_getElem (by omega)]; exact List.getElem_mem _
      rw [pre1, List.length_take]
      exact Nat.le_trans (Nat.min_le_right _ _) (perms4_len _ (hop _ hom))
    · intro p hp x hx
      obtain ⟨j, hj, rfl⟩ := List.mem_map.mp hp
      have hj4 := List.mem_range.mp hj
      have hom : os.getD j [] ∈ os := by rw [List.getD_eq_getElem?_getD, List.getElem?_eq_getElem (by omega)]; exact List.getElem_mem _
      exact perms4_128 _ (hop _ hom) x (List.mem_of_mem_take hx)
    rintro v h6 tk6 F6 N6 _ rfl _
    rw [hbe]
    k_steps
    rename Fr _ _ _ _ => F7
    rename News _ _ _ _ => N7
    exact hQ0 _ _ ⟨_, _, _, _, rfl, rfl, F7, newsSub N7 (by kst_in), fun z hz => rfl, fun p hp => hp⟩
end Wr50
end
section
set_option maxRecDepth 100000
set_option maxHeartbeats 4000000
namespace Wr50
open PySem PySem.W PySem.Calls PyProof.Rows
@[reducible] noncomputable def fb26c : { l : List Stmt // l = forBody (b26.1.getD 13 st0) } := by
  apply cap
  conv => rhs; whnf
@[reducible] noncomputable def m0 : { l : Stmt // l = fb26c.1.getD 0 st0 } := by
  apply cap
  conv => rhs; whnf
@[reducible] noncomputable def m1 : { l : Stmt // l = fb26c.1.getD 1 st0 } := by
  apply cap
  conv => rhs; whnf
/-- the folders that the order o likes better than c -/
noncomputable def betw (o : List Nat) (c i : Nat) : List Nat := (ltrs.take i).filter fun a => bef o a c
theorem dots_eq (a b : Nat) : Str.ofString "..." ++ st1 a ++ Str.ofString "..." ++ st1 b ++ Str.ofString "..." = dots a b := rfl
theorem bet_a : ∀ (w : World) (os : List (List Nat)) (_ : os.length = 5) (_ : ∀ o ∈ os, o ∈ perms4) (vl : List Nat) (_ : vl.length = 4) (_ : ∀ c ∈ vl, c ∈ ltrs) (i : Nat) (_ : i < 4) (dp un : Nat) (gd : Option (List Code)) (frs : List Env) (base g : Heap) (mean : ExcName → Option Value) (mg mb : PySem.Str → Option Value)
   (_ : Below (ar dp un gd frs) base frs g) (_ : (KF w.params).In g) (_ : Top qv lo mean mg mb g) (_ : dp + 10 < recursionLimit) (_ : un + 200 < cLine)
   (L : Addr) (it mo ta va ha na oa : Addr) (io : Obj) (mvs gvs vvs hvs nvs ovs : List Value) (mn tn vn hn n k : Nat) (c2 c3 c4 c5 c6 : Obj) (tk2 : Tok) (_ : c2.data = .cell (some (.int (i : Nat) tk2))) (_ : c4.data = .cell (some (.ref ha))) (_ : c5.data = .cell (some (.ref va))) (_ : StrsAre hvs (os.map stL)) (_ : StrsAre vvs (vl.map st1))  (s : Shared) (E : Value → Shared → Prop) (m : PySem.Str → Option Value) 
   (_ : Fr g L s.heap m) (_ : News g L s.heap [(it, io), (mo, W.listOf mvs.toArray mn), (ta, W.listOf gvs.toArray tn), (va, W.listOf vvs.toArray vn), (ha, W.listOf hvs.toArray hn), (na, W.listOf nvs.toArray n), (oa, W.listOf ovs.toArray k), (L + 1 + 1, c2), (L + 1 + 1 + 1, c3), (L + 1 + 1 + 1 + 1, c4), (L + 1 + 1 + 1 + 1 + 1, c5), (L + 1 + 1 + 1 + 1 + 1 + 1, c6)])
   (_ : PassesOwn (model PySem.Challenge.rw_wr0050_01.prog w) ((ar dp un gd frs).deeper (env26 L)) (env26 L) E),
   wpAny (model PySem.Challenge.rw_wr0050_01.prog w) ((ar dp un gd frs).deeper (env26 L)) (exec m0.1 (env26 L))
       (TurnW s g L m [Str.ofString "better"] (fun m' nw' => ∃ ba bvs bn, m' (Str.ofString "better") = some (.ref ba) ∧ StrsAre bvs ((betw (os.getD i []) (vl.getD i 0) 4).map st1) ∧ ∀ p ∈ [(ba, W.listOf bvs.toArray bn), (it, io), (mo, W.listOf mvs.toArray mn), (ta, W.listOf gvs.toArray tn), (va, W.listOf vvs.toArray vn), (ha, W.listOf hvs.toArray hn), (na, W.listOf nvs.toArray n), (oa, W.listOf ovs.toArray k), (L + 1 + 1, c2), (L + 1 + 1 + 1, c3), (L + 1 + 1 + 1 + 1, c4), (L + 1 + 1 + 1 + 1 + 1, c5), (L + 1 + 1 + 1 + 1 + 1 + 1, c6)], p ∈ nw')) E s := by
  k_fill
  intro w os hol hop vl hvl hvm i hi dp un gd frs base g mean mg mb B X T hd hu L it mo ta va ha na oa io mvs gvs vvs hvs nvs ovs mn tn vn hn n k c2 c3 c4 c5 c6 tk2 hc2 hc4 hc5 hhs hvs2 s E m  F N hE
  refine hideQ ?_
  intro Q0 hQ0
  have hhl : hvs.length = 5 := by rw [hhs.length, List.length_map, hol]
  have hvl2 : vvs.length = 4 := by rw [hvs2.length, List.length_map, hvl]
  have hom : os.getD i [] ∈ os := by rw [List.getD_eq_getElem?_getD, List.getElem?_eq_getElem (by omega)]; exact List.getElem_mem _
  have hcm : vl.getD i 0 ∈ vl := by rw [List.getD_eq_getElem?_getD, List.getElem?_eq_getElem (by omega)]; exact List.getElem_mem _
  have e1 := getD_st1 (gl := vl) (i := i) (by omega)
  have e2 := getD_stL (ml := os) (i := i) (by omega)
  refine Assign_ListComp_any F (by rfl) (by with_unfolding_all rfl) (by with_unfolding_all rfl) (by rfl) (by decide) (by rfl) (by rfl) ?_
  walk1
  refine comp_str (fun i' ys => StrsAre ys ((betw (os.getD i []) (vl.getD i 0) i').map st1)) (by rfl) (by decide) (by decide) (by rfl) (by rfl) F N .nil ?fin ?step
  case step =>
    intro i' ys c u hc hyl hJ I oI C oC D m₂ h tk E' hm2 hoC F3 N3 hoff
    have hc4' : ltrs[i']? = some c := by rw [← List.getElem?_toArray]; exact hc
    have hcl : c ∈ ltrs := List.mem_of_getElem? hc4'
    refine wpAny_tests_one ?_
    have hlen : (st1 c).length = 1 := rfl
    k_with "call ref" => refine hold ?_
    have hmi : (stL (os.getD i [])).length ≤ 4 := by show (os.getD i []).toArray.size ≤ 4; rw [List.size_toArray]; exact perms4_len _ (hop _ hom)
    rw [← e2, show i = ((i : Int)).toNat from (Int.toNat_natCast i).symm] at hmi
    have hgi : ((vl.map st1).getD i PySem.Str.empty).length ≤ 1 := by rw [e1]; exact Nat.le_refl _
    rw [show i = ((i : Int)).toNat from (Int.toNat_natCast i).symm] at hgi
    k_steps
    unfold Hold
    k_with_none
    rename Fr _ _ _ _ => F4
    rename News _ _ _ _ => N4
    rw [Int.toNat_natCast, e1, e2, dots_eq]
    have hob := hop _ hom
    have hcb := hvm _ hcm
    have hbw : betw (os.getD i []) (vl.getD i 0) (i' + 1) = betw (os.getD i []) (vl.getD i 0) i' ++ (if bef (os.getD i []) c (vl.getD i 0) = true then [c] else []) := by
      unfold betw
      rw [take_succ_get hc4', List.filter_append]
      congr 1
      by_cases h : bef (os.getD i []) c (vl.getD i 0) = true
      · rw [if_pos h]; simp only [List.filter_cons, h, if_true, List.filter_nil]
      · rw [if_neg h]; simp only [List.filter_cons, h, if_false, List.filter_nil, Bool.false_eq_true]
    obtain ⟨d0, d1, d2, d3, he⟩ := perm_at hob
    rw [he] at hob
    rw [he]
    refine use (pc_ell w c (vl.getD i 0) d0 d1 d2 d3 _ _ hcl hcb hob) B F4 N4 X T rfl rfl (room1 hd (by decide)) (room3 hu (by decide)) trivial ?_
    rintro _ h5 tk5 F5 N5 _ rfl
    rw [← he]
    cases hbf : bef (os.getD i []) c (vl.getD i 0) with
    | true =>
      k_steps
      refine ⟨_, _, rfl, by assumption, by assumption, ?_⟩
      dsimp only
      rw [hbw, if_pos hbf, List.map_append]
      exact strs_one hJ
    | false =>
      k_steps
      refine ⟨_, _, rfl, by assumption, by assumption, ?_⟩
      dsimp only
      rw [hbw, if_neg (by rw [hbf]; decide), List.append_nil]
      exact hJ
  case fin =>
    intro g5 ys hys D h tk F3 N3 hoff
    refine hQ0 _ _ ⟨_, _, _, _, rfl, rfl, F3, N3, fun z hz => ?_, D, ys, ys.length, if_pos rfl, hys, fun p hp => hp⟩
    have hz' : z ≠ Str.ofString "better" := fun e => by rw [e] at hz; revert hz; decide
    exact if_neg hz'
end Wr50
end
section
set_option maxRecDepth 100000
set_option maxHeartbeats 4000000
namespace Wr50
open PySem PySem.W PySem.Calls PyProof.Rows
@[reducible] noncomputable def q12 : { l : Stmt // l = b26.1.getD 12 st0 } := by
  apply cap
  conv => rhs; whnf
theorem law_12 : ∀ (w : World)  (dp un : Nat) (gd : Option (List Code)) (frs : List Env) (base g : Heap) (mean : ExcName → Option Value) (mg mb : PySem.Str → Option Value)
   (_ : Below (ar dp un gd frs) base frs g) (_ : (KF w.params).In g) (_ : Top qv lo mean mg mb g) (_ : dp + 10 < recursionLimit) (_ : un + 200 < cLine)
   (L : Addr) (ta va ha na oa : Addr) (gvs vvs hvs nvs ovs : List Value) (tn vn hn n k : Nat) (c2 c3 c4 c5 c6 : Obj) (s : Shared) (E : Value → Shared → Prop) (m : PySem.Str → Option Value) 
   (_ : Fr g L s.heap m) (_ : News g L s.heap [(ta, W.listOf gvs.toArray tn), (va, W.listOf vvs.toArray vn), (ha, W.listOf hvs.toArray hn), (na, W.listOf nvs.toArray n), (oa, W.listOf ovs.toArray k), (L + 1 + 1, c2), (L + 1 + 1 + 1, c3), (L + 1 + 1 + 1 + 1, c4), (L + 1 + 1 + 1 + 1 + 1, c5), (L + 1 + 1 + 1 + 1 + 1 + 1, c6)])
   (_ : PassesOwn (model PySem.Challenge.rw_wr0050_01.prog w) ((ar dp un gd frs).deeper (env26 L)) (env26 L) E),
   wpAny (model PySem.Challenge.rw_wr0050_01.prog w) ((ar dp un gd frs).deeper (env26 L)) (exec q12.1 (env26 L))
       (TurnW s g L m [Str.ofString "more"] (fun m' nw' => ∃ mo mn, m' (Str.ofString "more") = some (.ref mo) ∧ ((@Ne Nat mo ta) ∧ (@Ne Nat mo va) ∧ (@Ne Nat mo ha) ∧ (@Ne Nat mo na) ∧ (@Ne Nat mo oa)) ∧ CellsOff L mo ∧ ∀ p ∈ [(mo, W.listOf #[] mn), (ta, W.listOf gvs.toArray tn), (va, W.listOf vvs.toArray vn), (ha, W.listOf hvs.toArray hn), (na, W.listOf nvs.toArray n), (oa, W.listOf ovs.toArray k), (L + 1 + 1, c2), (L + 1 + 1 + 1, c3), (L + 1 + 1 + 1 + 1, c4), (L + 1 + 1 + 1 + 1 + 1, c5), (L + 1 + 1 + 1 + 1 + 1 + 1, c6)], p ∈ nw')) E s := by
  k_fill
  intro w  dp un gd frs base g mean mg mb B X T hd hu L ta va ha na oa gvs vvs hvs nvs ovs tn vn hn n k c2 c3 c4 c5 c6 s E m  F N hE
  refine hideQ ?_
  intro Q0 hQ0
  k_with "storeName" => refine hold ?_
  k_steps
  unfold Hold
  k_with_none
  k_steps
  rename Fr _ _ _ _ => F1
  rename News _ _ _ _ => N1
  rename_i la _ hlt h9
  obtain ⟨e1, e2, e3, e4, e5, e6, e7, e8, e9, e10⟩ := hlt
  refine hQ0 _ _ ⟨_, _, _, _, rfl, rfl, F1, N1, fun z hz => ?_, la, 0, if_pos rfl, ⟨Nat.ne_of_gt e1, Nat.ne_of_gt e2, Nat.ne_of_gt e3, Nat.ne_of_gt e4, Nat.ne_of_gt e5⟩, ⟨Nat.ne_of_gt e6, Nat.ne_of_gt e7, Nat.ne_of_gt e8, Nat.ne_of_gt e9, Nat.ne_of_gt e10⟩, by kst_in⟩
  have hz' : z ≠ Str.ofString "more" := fun e => by rw [e] at hz; revert hz; decide
  exact if_neg hz'
theorem sum_st1 : ∀ l : List Nat, ((l.map st1).map (fun x => x.length)).sum = l.length
  | [] => rfl
  | a :: r => by
    rw [List.map_cons, List.map_cons, List.sum_cons, sum_st1 r, List.length_cons, Nat.add_comm]; rfl
theorem joinS_st1 (bl : List Nat) : Txt.join (Str.ofString "") (bl.map st1) = stL bl := by
  have h := join_stL [] (bl.map fun c => [c])
  rw [List.map_map] at h
  refine (show Txt.join (Str.ofString "") (bl.map st1) = Txt.join (stL []) (bl.map (stL ∘ fun c => [c])) from rfl).trans (h.trans ?_)
  congr 1
  have key : ∀ l : List Nat, joinS [] (l.map fun c => [c]) = l := by
    intro l
    induction l with
    | nil => rfl
    | cons a r ih =>
      cases r with
      | nil => rfl
      | cons b r =>
        rw [List.map_cons, List.map_cons, joinS, ← List.map_cons (f := fun c => [c]), ih]; rfl
  exact key bl
theorem bet_b : ∀ (w : World)  (dp un : Nat) (gd : Option (List Code)) (frs : List Env) (base g : Heap) (mean : ExcName → Option Value) (mg mb : PySem.Str → Option Value)
   (_ : Below (ar dp un gd frs) base frs g) (_ : (KF w.params).In g) (_ : Top qv lo mean mg mb g) (_ : dp + 10 < recursionLimit) (_ : un + 200 < cLine)
   (L : Addr) (ba it mo ta va ha na oa : Addr) (io : Obj) (bvs mvs gvs vvs hvs nvs ovs : List Value) (bn mn tn vn hn n k : Nat) (c2 c3 c4 c5 c6 : Obj) (_ : mvs.length ≤ 4) (_ : (@Ne Nat mo it) ∧ (@Ne Nat mo ta) ∧ (@Ne Nat mo va) ∧ (@Ne Nat mo ha) ∧ (@Ne Nat mo na) ∧ (@Ne Nat mo oa)) (_ : CellsOff L mo) (bl : List Nat) (_ : bl.length ≤ 4) (_ : StrsAre bvs (bl.map st1)) (s : Shared) (E : Value → Shared → Prop) (m : PySem.Str → Option Value) (_ : m (Str.ofString "more") = some (.ref mo)) (_ : m (Str.ofString "better") = some (.ref ba))
   (_ : Fr g L s.heap m) (_ : News g L s.heap [(ba, W.listOf bvs.toArray bn), (it, io), (mo, W.listOf mvs.toArray mn), (ta, W.listOf gvs.toArray tn), (va, W.listOf vvs.toArray vn), (ha, W.listOf hvs.toArray hn), (na, W.listOf nvs.toArray n), (oa, W.listOf ovs.toArray k), (L + 1 + 1, c2), (L + 1 + 1 + 1, c3), (L + 1 + 1 + 1 + 1, c4), (L + 1 + 1 + 1 + 1 + 1, c5), (L + 1 + 1 + 1 + 1 + 1 + 1, c6)])
   (_ : PassesOwn (model PySem.Challenge.rw_wr0050_01.prog w) ((ar dp un gd frs).deeper (env26 L)) (env26 L) E),
   wpAny (model PySem.Challenge.rw_wr0050_01.prog w) ((ar dp un gd frs).deeper (env26 L)) (exec m1.1 (env26 L))
       (TurnW s g L m [] (fun m' nw' => ∃ t mn', ∀ p ∈ [(it, io), (mo, W.listOf (mvs ++ [Value.str (stL bl) t]).toArray mn'), (ta, W.listOf gvs.toArray tn), (va, W.listOf vvs.toArray vn), (ha, W.listOf hvs.toArray hn), (na, W.listOf nvs.toArray n), (oa, W.listOf ovs.toArray k), (L + 1 + 1, c2), (L + 1 + 1 + 1, c3), (L + 1 + 1 + 1 + 1, c4), (L + 1 + 1 + 1 + 1 + 1, c5), (L + 1 + 1 + 1 + 1 + 1 + 1, c6)], p ∈ nw')) E s := by
  k_fill
  intro w  dp un gd frs base g mean mg mb B X T hd hu L ba it mo ta va ha na oa io bvs mvs gvs vvs hvs nvs ovs bn mn tn vn hn n k c2 c3 c4 c5 c6 hml hap hg bl hbl hbs s E m hmm hmb F N hE
  refine hideQ ?_
  intro Q0 hQ0
  have hkk : ∀ p ∈ [(Str.ofString "more", Value.ref mo), (Str.ofString "better", Value.ref ba)], m p.1 = some p.2 := fun p hp => by
    rcases List.mem_cons.mp hp with rfl | hp
    · exact hmm
    · rw [List.mem_singleton.mp hp]; exact hmb
  have FF := kst_self2 hkk F
  clear F
  have hbl2 : bvs.length ≤ 4 := by rw [hbs.length, List.length_map]; exact hbl
  k_with "call builtin:str.join" => refine hold ?_
  k_steps
  unfold Hold
  k_with_none
  refine join_list (x := Str.ofString "") (News.isList N (.head _)) hbs ?_ ?_
  · rw [show (Str.ofString "").length = 0 from rfl, Nat.mul_zero, Nat.add_zero, sum_st1]
    omega
  intro t5 k5
  rw [joinS_st1]
  k_with "call builtin:list.append" => refine hold ?_
  k_steps
  unfold Hold
  k_with_none
  refine append_led (ha := mo) (arr := mvs.toArray) (n := mn) (rest := [(it, io), (ta, W.listOf gvs.toArray tn), (va, W.listOf vvs.toArray vn), (ha, W.listOf hvs.toArray hn), (na, W.listOf nvs.toArray n), (oa, W.listOf ovs.toArray k), (L + 1 + 1, c2), (L + 1 + 1 + 1, c3), (L + 1 + 1 + 1 + 1, c4), (L + 1 + 1 + 1 + 1 + 1, c5), (L + 1 + 1 + 1 + 1 + 1 + 1, c6)]) FF (newsSub N (by kst_in)) ?_ ?_ fun h8 F8 N8 => ?_
  · obtain ⟨e0, e1, e2, e3, e4, e5⟩ := hap
    refine all1 ?_ (all1 ?_ (all1 ?_ (all1 ?_ (all1 ?_ (all1 ?_ (all1 ?_ (all1 ?_ (all1 ?_ (all1 ?_ (all1 ?_ all0))))))))))
    · exact Ne.symm e0
    · exact Ne.symm e1
    · exact Ne.symm e2
    · exact Ne.symm e3
    · exact Ne.symm e4
    · exact Ne.symm e5
    · exact Ne.symm hg.1
    · exact Ne.symm hg.2.1
    · exact Ne.symm hg.2.2.1
    · exact Ne.symm hg.2.2.2.1
    · exact Ne.symm hg.2.2.2.2
  · rw [List.size_toArray]; exact Nat.le_trans hml (by decide)
  · refine hQ0 _ _ ⟨_, _, _, _, rfl, rfl, F8, N8, fun z hz => kstB_self hkk, t5, mn + 1, ?_⟩
    rw [show (mvs ++ [Value.str (stL bl) t5]).toArray = mvs.toArray.push (Value.str (stL bl) t5) by simp]
    kst_in
end Wr50
end
section
set_option maxRecDepth 100000
set_option maxHeartbeats 4000000
namespace Wr50
open PySem PySem.W PySem.Calls PyProof.Rows
theorem betw_len (o : List Nat) (c : Nat) : (betw o c 4).length ≤ 4 := Nat.le_trans (List.length_filter_le _ _) (by decide)
noncomputable def mores (os : List (List Nat)) (vl : List Nat) (i : Nat) : List (List Nat) := (List.range i).map fun k => betw (os.getD k []) (vl.getD k 0) 4
theorem bet_turn : ∀ (w : World) (os : List (List Nat)) (_ : os.length = 5) (_ : ∀ o ∈ os, o ∈ perms4) (vl : List Nat) (_ : vl.length = 4) (_ : ∀ c ∈ vl, c ∈ ltrs) (i : Nat) (_ : i < 4) (dp un : Nat) (gd : Option (List Code)) (frs : List Env) (base g : Heap) (mean : ExcName → Option Value) (mg mb : PySem.Str → Option Value)
   (_ : Below (ar dp un gd frs) base frs g) (_ : (KF w.params).In g) (_ : Top qv lo mean mg mb g) (_ : dp + 10 < recursionLimit) (_ : un + 200 < cLine)
   (L : Addr) (it mo ta va ha na oa : Addr) (io : Obj) (mvs gvs vvs hvs nvs ovs : List Value) (mn tn vn hn n k : Nat) (c2 c3 c4 c5 c6 : Obj) (tk2 : Tok) (_ : c2.data = .cell (some (.int (i : Nat) tk2))) (_ : c4.data = .cell (some (.ref ha))) (_ : c5.data = .cell (some (.ref va))) (_ : StrsAre hvs (os.map stL)) (_ : StrsAre vvs (vl.map st1))  (_ : mvs.length ≤ 4) (_ : (@Ne Nat mo it) ∧ (@Ne Nat mo ta) ∧ (@Ne Nat mo va) ∧ (@Ne Nat mo ha) ∧ (@Ne Nat mo na) ∧ (@Ne Nat mo oa)) (_ : CellsOff L mo) (s : Shared) (E : Value → Shared → Prop) (m : PySem.Str → Option Value) (_ : m (Str.ofString "more") = some (.ref mo))
   (_ : Fr g L s.heap m) (_ : News g L s.heap [(it, io), (mo, W.listOf mvs.toArray mn), (ta, W.listOf gvs.toArray tn), (va, W.listOf vvs.toArray vn), (ha, W.listOf hvs.toArray hn), (na, W.listOf nvs.toArray n), (oa, W.listOf ovs.toArray k), (L + 1 + 1, c2), (L + 1 + 1 + 1, c3), (L + 1 + 1 + 1 + 1, c4), (L + 1 + 1 + 1 + 1 + 1, c5), (L + 1 + 1 + 1 + 1 + 1 + 1, c6)])
   (_ : PassesOwn (model PySem.Challenge.rw_wr0050_01.prog w) ((ar dp un gd frs).deeper (env26 L)) (env26 L) E),
   wpAny (model PySem.Challenge.rw_wr0050_01.prog w) ((ar dp un gd frs).deeper (env26 L)) (execs fb26c.1 (env26 L))
       (TurnW s g L m [Str.ofString "better"] (fun m' nw' => ∃ t mn', ∀ p ∈ [(it, io), (mo, W.listOf (mvs ++ [Value.str (stL (betw (os.getD i []) (vl.getD i 0) 4)) t]).toArray mn'), (ta, W.listOf gvs.toArray tn), (va, W.listOf vvs.toArray vn), (ha, W.listOf hvs.toArray hn), (na, W.listOf nvs.toArray n), (oa, W.listOf ovs.toArray k), (L + 1 + 1, c2), (L + 1 + 1 + 1, c3), (L + 1 + 1 + 1 + 1, c4), (L + 1 + 1 + 1 + 1 + 1, c5), (L + 1 + 1 + 1 + 1 + 1 + 1, c6)], p ∈ nw')) E s := by
  k_fill
  intro w os hol hop vl hvl hvm i hi dp un gd frs base g mean mg mb B X T hd hu L it mo ta va ha na oa io mvs gvs vvs hvs nvs ovs mn tn vn hn n k c2 c3 c4 c5 c6 tk2 hc2 hc4 hc5 hhs hvs2 hml hap hg s E m hmm F N hE
  refine hideQ ?_
  intro Q0 hQ0
  show wpAny _ _ (execs [m0.1, m1.1] (env26 L)) _ _ _
  refine wpAny_execs_cons (turn_go (bet_a w os hol hop vl hvl hvm i hi dp un gd frs base g mean mg mb B X T hd hu L it mo ta va ha na oa io mvs gvs vvs hvs nvs ovs mn tn vn hn n k c2 c3 c4 c5 c6 tk2 hc2 hc4 hc5 hhs hvs2 s E m F N hE) fun h1 k1 m1 nw1 F1 N1 hs1 q => ?_)
  show wpAny _ _ (execs _ _) _ _ ⟨h1, s.gens, s.drawn, k1, s.os⟩
  obtain ⟨ba, bvs, bn, hmb, hbs, hsub1⟩ := q
  have N1' := newsSub N1 hsub1
  refine wpAny_execs_cons (turn_go (bet_b w dp un gd frs base g mean mg mb B X T hd hu L ba it mo ta va ha na oa io bvs mvs gvs vvs hvs nvs ovs bn mn tn vn hn n k c2 c3 c4 c5 c6 hml hap hg _ (betw_len _ _) hbs ⟨_, _, _, _, _⟩ E m1 ?_ hmb F1 N1' hE) fun h2 k2 m2 nw2 F2 N2 hs2 q => ?_)
  · exact (hs1 _ (by decide)).trans hmm
  show wpAny _ _ (execs _ _) _ _ ⟨h2, s.gens, s.drawn, k2, s.os⟩
  obtain ⟨t2, mn2, hsub2⟩ := q
  exact wpAny_execs_nil (hQ0 _ _ ⟨h2, k2, m2, nw2, rfl, rfl, F2, N2, fun z hz => (hs2 z rfl).trans (hs1 z hz), t2, mn2, hsub2⟩)
@[reducible] noncomputable def q13 : { l : Stmt // l = b26.1.getD 13 st0 } := by
  apply cap
  conv => rhs; whnf
theorem bet_loop : ∀ (w : World) (os : List (List Nat)) (_ : os.length = 5) (_ : ∀ o ∈ os, o ∈ perms4) (vl : List Nat) (_ : vl.length = 4) (_ : ∀ c ∈ vl, c ∈ ltrs) (dp un : Nat) (gd : Option (List Code)) (frs : List Env) (base g : Heap) (mean : ExcName → Option Value) (mg mb : PySem.Str → Option Value)
   (_ : Below (ar dp un gd frs) base frs g) (_ : (KF w.params).In g) (_ : Top qv lo mean mg mb g) (_ : dp + 10 < recursionLimit) (_ : un + 200 < cLine)
   (L : Addr) (mo ta va ha na oa : Addr) (gvs vvs hvs nvs ovs : List Value) (mn tn vn hn n k : Nat) (c2 c3 c4 c5 c6 : Obj) (v2 : Option Value) (_ : c2.data = .cell v2) (_ : c4.data = .cell (some (.ref ha))) (_ : c5.data = .cell (some (.ref va))) (_ : StrsAre hvs (os.map stL)) (_ : StrsAre vvs (vl.map st1)) (_ : (@Ne Nat mo ta) ∧ (@Ne Nat mo va) ∧ (@Ne Nat mo ha) ∧ (@Ne Nat mo na) ∧ (@Ne Nat mo oa)) (_ : CellsOff L mo) (s : Shared) (E : Value → Shared → Prop) (m : PySem.Str → Option Value) (_ : m (Str.ofString "more") = some (.ref mo))
   (_ : Fr g L s.heap m) (_ : News g L s.heap [(mo, W.listOf #[] mn), (ta, W.listOf gvs.toArray tn), (va, W.listOf vvs.toArray vn), (ha, W.listOf hvs.toArray hn), (na, W.listOf nvs.toArray n), (oa, W.listOf ovs.toArray k), (L + 1 + 1, c2), (L + 1 + 1 + 1, c3), (L + 1 + 1 + 1 + 1, c4), (L + 1 + 1 + 1 + 1 + 1, c5), (L + 1 + 1 + 1 + 1 + 1 + 1, c6)])
   (_ : PassesOwn (model PySem.Challenge.rw_wr0050_01.prog w) ((ar dp un gd frs).deeper (env26 L)) (env26 L) E),
   wpAny (model PySem.Challenge.rw_wr0050_01.prog w) ((ar dp un gd frs).deeper (env26 L)) (exec q13.1 (env26 L))
       (TurnW s g L m [Str.ofString "better"] (fun m' nw' => ∃ mvs' mn' c2', StrsAre mvs' ((mores os vl 4).map stL) ∧ (∃ v, c2'.data = .cell v) ∧ ∀ p ∈ [(mo, W.listOf mvs'.toArray mn'), (ta, W.listOf gvs.toArray tn), (va, W.listOf vvs.toArray vn), (ha, W.listOf hvs.toArray hn), (na, W.listOf nvs.toArray n), (oa, W.listOf ovs.toArray k), (L + 1 + 1, c2'), (L + 1 + 1 + 1, c3), (L + 1 + 1 + 1 + 1, c4), (L + 1 + 1 + 1 + 1 + 1, c5), (L + 1 + 1 + 1 + 1 + 1 + 1, c6)], p ∈ nw')) E s := by
  k_fill
  intro w os hol hop vl hvl hvm dp un gd frs base g mean mg mb B X T hd hu L mo ta va ha na oa gvs vvs hvs nvs ovs mn tn vn hn n k c2 c3 c4 c5 c6 v2 hc2 hc4 hc5 hhs hvs2 hap hg s E m hmm F N hE
  refine hideQ ?_
  intro Q0 hQ0
  refine wpAny_For ?_
  k_with "pyIter ref" => refine hold ?_
  k_steps
  unfold Hold
  k_with_none
  rename Fr _ _ _ _ => F1
  rename News _ _ _ _ => N1
  rename IsRange _ _ _ _ _ _ _ _ => hrg
  refine for_range (σ := List Value × Nat × Obj) (n := 4) 0 [mo, ta, va, ha, na, oa, L + 1 + 1, L + 1 + 1 + 1, L + 1 + 1 + 1 + 1, L + 1 + 1 + 1 + 1 + 1, L + 1 + 1 + 1 + 1 + 1 + 1] (fun c => [(mo, W.listOf c.1.toArray c.2.1), (ta, W.listOf gvs.toArray tn), (va, W.listOf vvs.toArray vn), (ha, W.listOf hvs.toArray hn), (na, W.listOf nvs.toArray n), (oa, W.listOf ovs.toArray k), (L + 1 + 1, c.2.2), (L + 1 + 1 + 1, c3), (L + 1 + 1 + 1 + 1, c4), (L + 1 + 1 + 1 + 1 + 1, c5), (L + 1 + 1 + 1 + 1 + 1 + 1, c6)]) (fun _ => []) [Str.ofString "better"]
    (fun i c => StrsAre c.1 ((mores os vl i).map stL) ∧ ∃ v, c.2.2.data = .cell v) ([], mn, c2) (by rfl) hrg (by decide) (Nat.zero_le _) F1 N1 (fun p hp => nomatch hp) ⟨.nil, v2, hc2⟩ ?_ ?_ ?_ ?_ hE
  · exact fun c => all1 (.head _) (all1 (.tail _ (.head _)) (all1 (.tail _ (.tail _ (.head _))) (all1 (.tail _ (.tail _ (.tail _ (.head _)))) (all1 (.tail _ (.tail _ (.tail _ (.tail _ (.head _))))) (all1 (.tail _ (.tail _ (.tail _ (.tail _ (.tail _ (.head _)))))) (all1 (.tail _ (.tail _ (.tail _ (.tail _ (.tail _ (.tail _ (.head _))))))) (all1 (.tail _ (.tail _ (.tail _ (.tail _ (.tail _ (.tail _ (.tail _ (.head _)))))))) (all1 (.tail _ (.tail _ (.tail _ (.tail _ (.tail _ (.tail _ (.tail _ (.tail _ (.head _))))))))) (all1 (.tail _ (.tail _ (.tail _ (.tail _ (.tail _ (.tail _ (.tail _ (.tail _ (.tail _ (.head _)))))))))) (all1 (.tail _ (.tail _ (.tail _ (.tail _ (.tail _ (.tail _ (.tail _ (.tail _ (.tail _ (.tail _ (.head _))))))))))) all0))))))))))
  · refine all1 ?_ (all1 ?_ (all1 ?_ (all1 ?_ (all1 ?_ (all1 ?_ (all1 ?_ (all1 ?_ (all1 ?_ (all1 ?_ (all1 ?_ all0))))))))))
    · exact ⟨_, .head _⟩
    · exact ⟨_, .tail _ (.head _)⟩
    · exact ⟨_, .tail _ (.tail _ (.head _))⟩
    · exact ⟨_, .tail _ (.tail _ (.tail _ (.head _)))⟩
    · exact ⟨_, .tail _ (.tail _ (.tail _ (.tail _ (.head _))))⟩
    · exact ⟨_, .tail _ (.tail _ (.tail _ (.tail _ (.tail _ (.head _)))))⟩
    · exact ⟨_, .tail _ (.tail _ (.tail _ (.tail _ (.tail _ (.tail _ (.head _))))))⟩
    · exact ⟨_, .tail _ (.tail _ (.tail _ (.tail _ (.tail _ (.tail _ (.tail _ (.head _)))))))⟩
    · exact ⟨_, .tail _ (.tail _ (.tail _ (.tail _ (.tail _ (.tail _ (.tail _ (.tail _ (.head _))))))))⟩
    · exact ⟨_, .tail _ (.tail _ (.tail _ (.tail _ (.tail _ (.tail _ (.tail _ (.tail _ (.tail _ (.head _)))))))))⟩
    · exact ⟨_, .tail _ (.tail _ (.tail _ (.tail _ (.tail _ (.tail _ (.tail _ (.tail _ (.tail _ (.tail _ (.head _))))))))))⟩
  · rintro i t ⟨mvs, mn1, c2'⟩ u h tk it io hi ⟨hvl', v2', hc2'⟩ _ hit F2 N2
    dsimp only at hvl' hc2' N2 ⊢
    have hitk : (@Ne Nat it (L + 1 + 1)) := fun e => hit (by rw [e]; simp)
    have hith : (@Ne Nat mo it) := fun e => hit (by rw [← e]; exact .head _)
    have hhl : mvs.length ≤ 4 := by rw [hvl'.length, List.length_map, mores, List.length_map, List.length_range]; omega
    have hmc : (L + 1 + 1, c2') ∈ (it, io) :: [(mo, W.listOf mvs.toArray mn1), (ta, W.listOf gvs.toArray tn), (va, W.listOf vvs.toArray vn), (ha, W.listOf hvs.toArray hn), (na, W.listOf nvs.toArray n), (oa, W.listOf ovs.toArray k), (L + 1 + 1, c2'), (L + 1 + 1 + 1, c3), (L + 1 + 1 + 1 + 1, c4), (L + 1 + 1 + 1 + 1 + 1, c5), (L + 1 + 1 + 1 + 1 + 1 + 1, c6)] := (by repeat (first | exact List.mem_cons_self | apply List.mem_cons_of_mem))
    refine wpAny_assign_Name ?_
    refine storeX_C F2 (newsSub (nw := (L + 1 + 1, c2') :: [(it, io), (mo, W.listOf mvs.toArray mn1), (ta, W.listOf gvs.toArray tn), (va, W.listOf vvs.toArray vn), (ha, W.listOf hvs.toArray hn), (na, W.listOf nvs.toArray n), (oa, W.listOf ovs.toArray k), (L + 1 + 1 + 1, c3), (L + 1 + 1 + 1 + 1, c4), (L + 1 + 1 + 1 + 1 + 1, c5), (L + 1 + 1 + 1 + 1 + 1 + 1, c6)]) N2 (by kst_in)) rfl (.head ?_) hc2' fun h9 o9 F9 N9 d9 => ?_
    · refine all1 ?_ (all1 ?_ (all1 ?_ (all1 ?_ (all1 ?_ (all1 ?_ (all1 ?_ (all1 ?_ (all1 ?_ (all1 ?_ (all1 ?_ all0))))))))))
      · exact hitk
      · exact hg.1
      · exact cell_ne N2 (n := tn) (arr := gvs.toArray) (by repeat (first | exact List.mem_cons_self | apply List.mem_cons_of_mem)) hmc hc2'
      · exact cell_ne N2 (n := vn) (arr := vvs.toArray) (by repeat (first | exact List.mem_cons_self | apply List.mem_cons_of_mem)) hmc hc2'
      · exact cell_ne N2 (n := hn) (arr := hvs.toArray) (by repeat (first | exact List.mem_cons_self | apply List.mem_cons_of_mem)) hmc hc2'
      · exact cell_ne N2 (n := n) (arr := nvs.toArray) (by repeat (first | exact List.mem_cons_self | apply List.mem_cons_of_mem)) hmc hc2'
      · exact cell_ne N2 (n := k) (arr := ovs.toArray) (by repeat (first | exact List.mem_cons_self | apply List.mem_cons_of_mem)) hmc hc2'
      · exact Nat.ne_of_gt (Nat.lt_succ_self _)
      · exact Nat.ne_of_gt (Nat.lt_succ_of_lt (Nat.lt_succ_self _))
      · exact Nat.ne_of_gt (Nat.lt_succ_of_lt (Nat.lt_succ_of_lt (Nat.lt_succ_self _)))
      · exact Nat.ne_of_gt (Nat.lt_succ_of_lt (Nat.lt_succ_of_lt (Nat.lt_succ_of_lt (Nat.lt_succ_self _))))
    show wpAny _ _ (execs fb26c.1 (env26 L)) _ _ _
    refine wpAny_mono (bet_turn w os hol hop vl hvl hvm i hi dp un gd frs base g mean mg mb B X T hd hu L it mo ta va ha na oa io mvs gvs vvs hvs nvs ovs mn1 tn vn hn n k o9 c3 c4 c5 c6 t d9 hc4 hc5 hhs hvs2 hhl ⟨hith, hap⟩ hg ⟨_, _, _, _, _⟩ E _ ?n1 F9 (newsSub N9 (by kst_in)) hE) (fun fl s9 q => ?_) fun _ _ x => x
    case n1 => exact hmm
    obtain ⟨h5, k5, m5, nw5, rfl, rfl, F5, N5, hs5, t5, mn5, hsub⟩ := q
    show ForEnd _ _ _ _ _ _ _ _ _ _
    refine for_end (its := [(it, io)]) (mvs ++ [Value.str (stL (betw (os.getD i []) (vl.getD i 0) 4)) t5], mn5, o9) F5 N5 hsub (fun p hp => nomatch hp) (fun z _ hz => (hs5 z hz).trans ?_) ⟨?_, _, d9⟩
    · show (if _ then _ else _) = _
      rw [hz]; rfl
    · rw [mores, List.range_succ, List.map_append, List.map_append]
      exact strs_one hvl'
  · rintro ⟨mvs, mn1, c2'⟩ u h tk ⟨hvl', v2', hc2'⟩ _ F2 N2
    refine wpAny_execs_nil (hQ0 _ _ ⟨h, tk, _, _, rfl, rfl, F2, N2, fun z hz => ?_, mvs, mn1, c2', hvl', ⟨v2', hc2'⟩, fun p hp => hp⟩)
    show (if _ then _ else _) = _
    rw [hz]; rfl
end Wr50
end
section
set_option maxRecDepth 100000
set_option maxHeartbeats 4000000
namespace Wr50
open PySem PySem.W PySem.Calls PyProof.Rows
@[reducible] noncomputable def q14 : { l : Stmt // l = b26.1.getD 14 st0 } := by
  apply cap
  conv => rhs; whnf
@[reducible] noncomputable def q15 : { l : Stmt // l = b26.1.getD 15 st0 } := by
  apply cap
  conv => rhs; whnf
theorem isnot_same {M : Model} {A : Around} {E : Value → Shared → Prop} {s : Shared} {Q : Value → Shared → Prop} (b : Bool) (h : Q (.bool false) s) : wpAny M A (compareOp .IsNot (.bool b) (.bool b)) Q E s := by
  cases b with
  | true =>
    show wpAny M A (isSame (.bool true) (.bool true) >>= fun b => pure (Value.bool (!b))) Q E s
    exact wpAny_bind (wpAny_of_eq (a := true) rfl (wpAny_pure h))
  | false =>
    show wpAny M A (isSame (.bool false) (.bool false) >>= fun b => pure (Value.bool (!b))) Q E s
    exact wpAny_bind (wpAny_of_eq (a := true) rfl (wpAny_pure h))
theorem oks_st1 {l : List Nat} (h : ∀ c ∈ l, c ∈ ltrs) : Oks (l.map st1) := by
  intro x hx
  obtain ⟨c, hc, rfl⟩ := List.mem_map.mp hx
  exact (show ∀ c ∈ ltrs, PyData.strOk (st1 c) = true by decide +kernel) c (h c hc)
theorem law_14 : ∀ (w : World) (vl gl : List Nat) (ml : List (List Nat)) (_ : vl.length = 4) (_ : ml.length = 4) (_ : ∀ p ∈ ml, p.length ≤ 4) (_ : ∀ p ∈ ml, ∀ x ∈ p, x < 128) (_ : ∀ c ∈ vl, c ∈ ltrs) (_ : ∀ c ∈ gl, c ∈ ltrs) (_ : bett vl ml = !decide (vl.map st1 = gl.map st1)) (dp un : Nat) (gd : Option (List Code)) (frs : List Env) (base g : Heap) (mean : ExcName → Option Value) (mg mb : PySem.Str → Option Value)
   (_ : Below (ar dp un gd frs) base frs g) (_ : (KF w.params).In g) (_ : Top qv lo mean mg mb g) (_ : dp + 10 < recursionLimit) (_ : un + 200 < cLine)
   (L : Addr) (mo ta va ha na oa : Addr) (mvs gvs vvs hvs nvs ovs : List Value) (mn tn vn hn n k : Nat) (c2 c3 c4 c5 c6 : Obj) (_ : c5.data = .cell (some (.ref va))) (_ : c6.data = .cell (some (.ref ta))) (_ : StrsAre mvs (ml.map stL)) (_ : StrsAre vvs (vl.map st1)) (_ : StrsAre gvs (gl.map st1))  (s : Shared) (E : Value → Shared → Prop) (m : PySem.Str → Option Value) (_ : m (Str.ofString "more") = some (.ref mo))
   (_ : Fr g L s.heap m) (_ : News g L s.heap [(mo, W.listOf mvs.toArray mn), (ta, W.listOf gvs.toArray tn), (va, W.listOf vvs.toArray vn), (ha, W.listOf hvs.toArray hn), (na, W.listOf nvs.toArray n), (oa, W.listOf ovs.toArray k), (L + 1 + 1, c2), (L + 1 + 1 + 1, c3), (L + 1 + 1 + 1 + 1, c4), (L + 1 + 1 + 1 + 1 + 1, c5), (L + 1 + 1 + 1 + 1 + 1 + 1, c6)])
   (_ : PassesOwn (model PySem.Challenge.rw_wr0050_01.prog w) ((ar dp un gd frs).deeper (env26 L)) (env26 L) E),
   wpAny (model PySem.Challenge.rw_wr0050_01.prog w) ((ar dp un gd frs).deeper (env26 L)) (exec q14.1 (env26 L))
       (TurnW s g L m [] (fun m' nw' => ∀ p ∈ [(mo, W.listOf mvs.toArray mn), (ta, W.listOf gvs.toArray tn), (va, W.listOf vvs.toArray vn), (ha, W.listOf hvs.toArray hn), (na, W.listOf nvs.toArray n), (oa, W.listOf ovs.toArray k), (L + 1 + 1, c2), (L + 1 + 1 + 1, c3), (L + 1 + 1 + 1 + 1, c4), (L + 1 + 1 + 1 + 1 + 1, c5), (L + 1 + 1 + 1 + 1 + 1 + 1, c6)], p ∈ nw')) E s := by
  k_fill
  intro w vl gl ml hvl hml hm4 hm128 hvm hgm hbe dp un gd frs base g mean mg mb B X T hd hu L mo ta va ha na oa mvs gvs vvs hvs nvs ovs mn tn vn hn n k c2 c3 c4 c5 c6 hc5 hc6 hms hvs2 hgs s E m hmm F N hE
  refine hideQ ?_
  intro Q0 hQ0
  have hkk : ∀ p ∈ [(Str.ofString "more", Value.ref mo)], m p.1 = some p.2 := fun p hp => by rw [List.mem_singleton.mp hp]; exact hmm
  have FF := kst_self2 hkk F
  clear F
  k_with "call ref" => refine hold ?_
  k_steps
  unfold Hold
  k_with_none
  rename Fr _ _ _ _ => F4
  rename News _ _ _ _ => N4
  refine useT (ps_bett w va mo vl ml hvl hml hm4 hm128).toT B F4 N4 X T rfl rfl (room1 hd (by decide)) (room3 hu (by decide)) ⟨⟨_, News.isList N4 (.tail _ (.tail _ (.head _))), hvs2⟩, _, News.isList N4 (.head _), hms⟩ ?_
  rintro v h6 tk6 F6 N6 _ rfl _
  generalize bett vl ml = bb at hbe ⊢
  walk1
  walk1
  walk1
  try dsimp only
  refine strs_ne (News.isList N6 (.tail _ (.tail _ (.head _)))) (News.isList N6 (.tail _ (.head _))) hvs2 hgs (oks_st1 hvm) (oks_st1 hgm) (by rw [units_deeper]; show un + 3 + 64 < cLine; exact room3 hu (by decide)) ?_
  rw [← hbe]
  try dsimp only
  refine isnot_same _ ?_
  k_steps
  exact hQ0 _ _ ⟨_, _, _, _, rfl, rfl, F6, N6, fun z hz => kstB_self hkk, fun p hp => hp⟩
theorem law_15 : ∀ (w : World) (nn : List Nat) (_ : nn.length = 6) (dp un : Nat) (gd : Option (List Code)) (frs : List Env) (base g : Heap) (mean : ExcName → Option Value) (mg mb : PySem.Str → Option Value)
   (_ : Below (ar dp un gd frs) base frs g) (_ : (KF w.params).In g) (_ : Top qv lo mean mg mb g) (_ : dp + 10 < recursionLimit) (_ : un + 200 < cLine)
   (L : Addr) (mo ta va ha na oa : Addr) (mvs gvs vvs hvs nvs ovs : List Value) (mn tn vn hn n k : Nat) (c2 c3 c4 c5 c6 : Obj) (_ : IntsAre nvs (natL nn)) (s : Shared) (E : Value → Shared → Prop) (m : PySem.Str → Option Value) (_ : m (Str.ofString "numbers") = some (.ref na))
   (_ : Fr g L s.heap m) (_ : News g L s.heap [(mo, W.listOf mvs.toArray mn), (ta, W.listOf gvs.toArray tn), (va, W.listOf vvs.toArray vn), (ha, W.listOf hvs.toArray hn), (na, W.listOf nvs.toArray n), (oa, W.listOf ovs.toArray k), (L + 1 + 1, c2), (L + 1 + 1 + 1, c3), (L + 1 + 1 + 1 + 1, c4), (L + 1 + 1 + 1 + 1 + 1, c5), (L + 1 + 1 + 1 + 1 + 1 + 1, c6)])
   (_ : PassesOwn (model PySem.Challenge.rw_wr0050_01.prog w) ((ar dp un gd frs).deeper (env26 L)) (env26 L) E),
   wpAny (model PySem.Challenge.rw_wr0050_01.prog w) ((ar dp un gd frs).deeper (env26 L)) (exec q15.1 (env26 L))
       (TurnW s g L m [Str.ofString "liar"] (fun m' nw' => ∃ t, m' (Str.ofString "liar") = some (.int ((nn.getD 5 0 % 4 : Nat) : Int) t) ∧ ∀ p ∈ [(mo, W.listOf mvs.toArray mn), (ta, W.listOf gvs.toArray tn), (va, W.listOf vvs.toArray vn), (ha, W.listOf hvs.toArray hn), (na, W.listOf nvs.toArray n), (oa, W.listOf ovs.toArray k), (L + 1 + 1, c2), (L + 1 + 1 + 1, c3), (L + 1 + 1 + 1 + 1, c4), (L + 1 + 1 + 1 + 1 + 1, c5), (L + 1 + 1 + 1 + 1 + 1 + 1, c6)], p ∈ nw')) E s := by
  k_fill
  intro w nn hnl dp un gd frs base g mean mg mb B X T hd hu L mo ta va ha na oa mvs gvs vvs hvs nvs ovs mn tn vn hn n k c2 c3 c4 c5 c6 hni s E m hmn F N hE
  refine hideQ ?_
  intro Q0 hQ0
  have FF := kst_self2 (ps := [(Str.ofString "numbers", .ref na)]) (fun p hp => by rw [List.mem_singleton.mp hp]; exact hmn) F
  clear F
  have hvl : nvs.length = 6 := by rw [hni.length, natL, List.length_map, hnl]
  k_steps
  rename Fr _ _ _ _ => F6
  rename News _ _ _ _ => N6
  have e : ((natL nn).getD (Int.toNat 5) 0).fmod 4 = ((nn.getD 5 0 % 4 : Nat) : Int) := by rw [natL_getD]; exact fmN _ 4
  exact hQ0 _ _ ⟨_, _, _, _, rfl, rfl, F6, N6, fun z hz => name_off hz (fun p hp => by rw [List.mem_singleton.mp hp]; exact hmn), _, (if_pos rfl).trans (by rw [e]), fun p hp => hp⟩
end Wr50
end
section
set_option maxRecDepth 100000
set_option maxHeartbeats 4000000
namespace Wr50
/-! the plain law: four clients, each with a folder of its own; R c x: the place of x in c's order -/
noncomputable abbrev F4 := Fin 4
noncomputable def itr (σ : F4 → F4) : Nat → F4 → F4
  | 0, x => x
  | n + 1, x => itr σ n (σ x)
noncomputable def fn4 (a b c d : F4) (i : F4) : F4 := match i with | 0 => a | 1 => b | 2 => c | 3 => d
theorem fn4_eq (σ : F4 → F4) : σ = fn4 (σ 0) (σ 1) (σ 2) (σ 3) := by
  funext i
  match i with | 0 => rfl | 1 => rfl | 2 => rfl | 3 => rfl
noncomputable def inj4 (a b c d : F4) : Bool := a != b && a != c && a != d && b != c && b != d && c != d
theorem orb0 : ∀ a b c d : F4, inj4 a b c d = true → ∀ x : F4, itr (fn4 a b c d) 12 x = x ∧ (x = fn4 a b c d x ∨ x = itr (fn4 a b c d) 2 x ∨ x = itr (fn4 a b c d) 3 x ∨ x = itr (fn4 a b c d) 4 x) := by decide +kernel
theorem inj4_of {σ : F4 → F4} (h : ∀ c d, σ c = σ d → c = d) : inj4 (σ 0) (σ 1) (σ 2) (σ 3) = true := by
  have g : ∀ c d : F4, c ≠ d → (σ c != σ d) = true := fun c d n => by simp only [bne_iff_ne, ne_eq]; exact fun e => n (h c d e)
  unfold inj4
  rw [g 0 1 (by decide), g 0 2 (by decide), g 0 3 (by decide), g 1 2 (by decide), g 1 3 (by decide), g 2 3 (by decide)]; rfl
theorem orb {σ : F4 → F4} (h : ∀ c d, σ c = σ d → c = d) (x : F4) : itr σ 12 x = x ∧ (x = σ x ∨ x = itr σ 2 x ∨ x = itr σ 3 x ∨ x = itr σ 4 x) := by
  have := orb0 _ _ _ _ (inj4_of h) x
  rw [← fn4_eq σ] at this
  exact this
theorem surj {σ : F4 → F4} (h : ∀ c d, σ c = σ d → c = d) (y : F4) : ∃ x, σ x = y := by
  have e := (orb h y).1
  have step : ∀ n x, itr σ (n + 1) x = σ (itr σ n x) := by
    intro n; induction n with
    | zero => intro x; rfl
    | succ n ih => intro x; exact ih (σ x)
  exact ⟨itr σ 11 y, (step 11 y).symm.trans e⟩
/-- a sharing with the round in which each gets what it gets: who would rather have another's folder, that one went before -/
structure Cert (R : F4 → F4 → Nat) (σ : F4 → F4) (ρ : F4 → Nat) : Prop where
  inj : ∀ c d, σ c = σ d → c = d
  same : ∀ c, ρ (σ c) = ρ c
  best : ∀ c d, R c d < R c (σ c) → ρ d < ρ c
/-- an order names each folder once -/
noncomputable def Lin (R : F4 → F4 → Nat) : Prop := ∀ c x y, R c x = R c y → x = y
/-- where two sharings are alike in what went before r, the second leaves what is left among itself -/
theorem stays {R : F4 → F4 → Nat} {σ τ : F4 → F4} {ρ : F4 → Nat} (C : Cert R σ ρ) (hτ : ∀ c d, τ c = τ d → c = d) (r : Nat) (h : ∀ c, ρ c < r → τ c = σ c) (c : F4) (hc : r ≤ ρ c) : r ≤ ρ (τ c) := by
  rcases Nat.lt_or_ge (ρ (τ c)) r with hlt | hge
  · obtain ⟨x, hx⟩ := surj C.inj (τ c)
    have hx2 : ρ x < r := by rw [← C.same x, hx]; exact hlt
    have e : τ x = τ c := (h x hx2).trans hx
    have := hτ x c e
    subst this
    omega
  · exact hge
theorem agree {R R' : F4 → F4 → Nat} {σ σ' : F4 → F4} {ρ ρ' : F4 → Nat} (hR : Lin R) (C : Cert R σ ρ) (C' : Cert R' σ' ρ') (N : Nat) (hN : ∀ c, ρ c < N → ∀ x, R c x = R' c x) :
    ∀ r c, ρ c = r → r < N → σ' c = σ c := by
  intro r
  induction r using Nat.strongRecOn with
  | ind r ih =>
    intro c hc hr
    have low : ∀ d, ρ d < r → σ' d = σ d := fun d hd => ih _ hd d rfl (by omega)
    have step : ∀ d, ρ d = r → σ' d = σ d ∨ ρ' (σ d) < ρ' d := by
      intro d hd
      have h1 := stays C C'.inj r low d (by omega)
      have h2 : ¬ R d (σ' d) < R d (σ d) := fun h => by have := C.best d _ h; omega
      rcases Nat.lt_or_ge (R d (σ d)) (R d (σ' d)) with h3 | h3
      · refine Or.inr (C'.best d _ ?_)
        rw [← hN d (by omega), ← hN d (by omega)]; exact h3
      · exact Or.inl (hR d _ _ (by omega))
    have fall : ∀ d, ρ d = r → ρ' (σ d) ≤ ρ' d := by
      intro d hd
      rcases step d hd with h | h
      · rw [← h, C'.same]; exact Nat.le_refl _
      · omega
    have falls : ∀ n d, ρ d = r → ρ' (itr σ n d) ≤ ρ' d := by
      intro n
      induction n with
      | zero => intro d _; exact Nat.le_refl _
      | succ n ihn => intro d hd; exact Nat.le_trans (ihn (σ d) (by rw [C.same]; exact hd)) (fall d hd)
    rcases step c hc with h | h
    · exact h
    · have h1 := falls 11 (σ c) (by rw [C.same]; exact hc)
      have h2 : itr σ 11 (σ c) = c := (orb C.inj c).1
      rw [h2] at h1
      omega
theorem unique {R : F4 → F4 → Nat} {σ σ' : F4 → F4} {ρ ρ' : F4 → Nat} (hR : Lin R) (C : Cert R σ ρ) (C' : Cert R σ' ρ') : σ' = σ := by
  funext c
  exact agree hR C C' (ρ c + 1) (fun _ _ _ => rfl) (ρ c) c rfl (by omega)
/-- told a false order, the liar gets nothing that it would rather have; and if it gets the same, all do -/
theorem liar {R R' : F4 → F4 → Nat} {σ σ' : F4 → F4} {ρ ρ' : F4 → Nat} (i : F4) (hR : Lin R) (C : Cert R σ ρ) (C' : Cert R' σ' ρ') (hi : ∀ c, c ≠ i → ∀ x, R c x = R' c x) :
    R i (σ i) < R i (σ' i) ∨ σ' = σ := by
  rcases Nat.lt_or_ge (R i (σ i)) (R i (σ' i)) with h | h
  · exact Or.inl h
  refine Or.inr ?_
  have low : ∀ c, ρ c < ρ i → σ' c = σ c := fun c hc => agree hR C C' (ρ i) (fun d hd => hi d (fun e => by subst e; omega)) (ρ c) c rfl hc
  have st := stays C C'.inj (ρ i) low
  have e : σ' i = σ i := by
    rcases Nat.lt_or_ge (R i (σ' i)) (R i (σ i)) with h2 | h2
    · have := C.best i _ h2
      have := st i (Nat.le_refl _)
      omega
    · exact hR i _ _ (by omega)
  refine unique hR C (ρ' := fun c => if ρ c < ρ i then ρ c else ρ' c + ρ i) ⟨C'.inj, ?_, ?_⟩
  · intro c
    by_cases hc : ρ c < ρ i
    · have h1 : ρ (σ' c) = ρ c := by rw [low c hc, C.same]
      simp [h1, hc]
    · have h1 := st c (by omega)
      have h2 : ¬ ρ (σ' c) < ρ i := by omega
      simp [h2, hc, C'.same]
  · intro c d hd
    by_cases hc : ρ c < ρ i
    · have h1 : ρ d < ρ c := C.best c d (by rw [← low c hc]; exact hd)
      rw [if_pos (by omega), if_pos hc]; exact h1
    · rw [if_neg hc]
      by_cases hdl : ρ d < ρ i
      · rw [if_pos hdl]; omega
      · rw [if_neg hdl]
        by_cases hci : c = i
        · subst hci
          have := C.best c d (by rw [← e]; exact hd)
          omega
        · have := C'.best c d (by rw [← hi c hci, ← hi c hci]; exact hd)
          omega
/-- another sharing is bettered: somebody would rather have what the rings gave it, and its ring leads back -/
theorem other {R : F4 → F4 → Nat} {σ τ : F4 → F4} {ρ : F4 → Nat} (hR : Lin R) (C : Cert R σ ρ) (hτ : ∀ c d, τ c = τ d → c = d) (h : τ ≠ σ) :
    ∃ c, R c (σ c) < R c (τ c) ∧ ∀ d, ρ d = ρ c → τ d = σ d ∨ R d (σ d) < R d (τ d) := by
  have key : ∀ r, (∀ c, ρ c < r → τ c = σ c) ∨ ∃ c, R c (σ c) < R c (τ c) ∧ ∀ d, ρ d = ρ c → τ d = σ d ∨ R d (σ d) < R d (τ d) := by
    intro r
    induction r with
    | zero => exact Or.inl fun c hc => absurd hc (Nat.not_lt_zero _)
    | succ r ih =>
      rcases ih with ih | ih
      · have step : ∀ d, ρ d = r → τ d = σ d ∨ R d (σ d) < R d (τ d) := by
          intro d hd
          have h1 := stays C hτ r ih d (by omega)
          have h2 : ¬ R d (τ d) < R d (σ d) := fun h => by have := C.best d _ h; omega
          rcases Nat.lt_or_ge (R d (σ d)) (R d (τ d)) with h3 | h3
          · exact Or.inr h3
          · exact Or.inl (hR d _ _ (by omega))
        by_cases hc : ∃ c, ρ c = r ∧ τ c ≠ σ c
        · obtain ⟨c, hc, hn⟩ := hc
          refine Or.inr ⟨c, (step c hc).resolve_left hn, fun d hd => step d (hd.trans hc)⟩
        · refine Or.inl fun c hc2 => ?_
          rcases Nat.lt_or_ge (ρ c) r with h3 | h3
          · exact ih c h3
          · exact Decidable.byContradiction fun hn => hc ⟨c, by omega, hn⟩
      · exact Or.inr ih
  rcases key (ρ 0 + ρ 1 + ρ 2 + ρ 3 + 1) with h1 | h1
  · refine absurd ?_ h
    funext c
    refine h1 c ?_
    match c with | 0 => omega | 1 => omega | 2 => omega | 3 => omega
  · exact h1
end Wr50
end
section
set_option maxRecDepth 100000
set_option maxHeartbeats 4000000
namespace Wr50
open PySem PySem.W PySem.Calls PyProof.Rows
/-! the plain law in the text's own lists: a letter for each of the four -/
noncomputable def toF (x : Nat) : F4 := ⟨ltrs.idxOf x % 4, Nat.mod_lt _ (by decide)⟩
noncomputable def lt4 (c : F4) : Nat := ltrs.getD c.val 0
theorem toF_lt4 : ∀ c : F4, toF (lt4 c) = c := by decide
theorem lt4_toF : ∀ x ∈ ltrs, lt4 (toF x) = x := by decide
theorem lt4_mem : ∀ c : F4, lt4 c ∈ ltrs := by decide
theorem lt4_idx : ∀ c : F4, ltrs.idxOf (lt4 c) = c.val := by decide
theorem lt4_inj {c d : F4} (h : lt4 c = lt4 d) : c = d := by rw [← toF_lt4 c, h, toF_lt4]
noncomputable def rk (os : List (List Nat)) (c x : F4) : Nat := (os.getD c.val []).idxOf (lt4 x)
theorem rk_inj : ∀ o ∈ perms4, ∀ x y : F4, o.idxOf (lt4 x) = o.idxOf (lt4 y) → x = y := by decide +kernel
theorem os_at {os : List (List Nat)} (hol : os.length = 4) (hop : ∀ o ∈ os, o ∈ perms4) (c : F4) : os.getD c.val [] ∈ perms4 := by
  refine hop _ ?_
  rw [List.getD_eq_getElem?_getD, List.getElem?_eq_getElem (by have := c.isLt; omega)]
  exact List.getElem_mem _
theorem rk_lin {os : List (List Nat)} (hol : os.length = 4) (hop : ∀ o ∈ os, o ∈ perms4) : Lin (rk os) :=
  fun c x y h => rk_inj _ (os_at hol hop c) x y h
noncomputable def sg (σ : Nat → Nat) (c : F4) : F4 := toF (σ (lt4 c))
theorem lt4_sg {os : List (List Nat)} {gs : List PySem.Str} {σ ρ : Nat → Nat} {r : Nat} (P : Part os [] gs σ ρ r) (c : F4) : lt4 (sg σ c) = σ (lt4 c) :=
  lt4_toF _ (P.mem _ (lt4_mem c) (by simp)).1
theorem cert_of {os : List (List Nat)} {gs : List PySem.Str} {σ ρ : Nat → Nat} {r : Nat} (P : Part os [] gs σ ρ r) : Cert (rk os) (sg σ) (fun c => ρ (lt4 c)) := by
  refine ⟨fun c d h => ?_, fun c => ?_, fun c d h => ?_⟩
  · have := congrArg lt4 h
    rw [lt4_sg P, lt4_sg P] at this
    exact lt4_inj (P.inj _ (lt4_mem c) (by simp) _ (lt4_mem d) (by simp) this)
  · show ρ (lt4 (sg σ c)) = _
    rw [lt4_sg P]; exact (P.same _ (lt4_mem c) (by simp)).1
  · refine (P.best _ (lt4_mem c) (by simp) _ (lt4_mem d) ?_).2
    unfold rk at h
    rw [lt4_sg P] at h
    unfold bef oo
    rw [lt4_idx]
    exact decide_eq_true h
theorem mem_joinS (x : Nat) : ∀ l : List (List Nat), x ∈ joinS [] l ↔ ∃ p ∈ l, x ∈ p
  | [] => by simp [joinS]
  | [p] => by simp [joinS]
  | p :: q :: r => by
    rw [joinS, List.append_nil, List.mem_append, mem_joinS x (q :: r)]
    simp
theorem mem_stepA {gl : List Nat} {ml : List (List Nat)} {al : List Nat} {x : Nat} : x ∈ stepA gl ml al ↔ x ∈ al ∨ ∃ c : F4, lt4 c ∈ al ∧ (x = gl.getD c.val 0 ∨ x ∈ ml.getD c.val []) := by
  rw [stepA, List.mem_append, mem_joinS]
  refine or_congr Iff.rfl ⟨?_, ?_⟩
  · rintro ⟨p, hp, hx⟩
    obtain ⟨i, hi, rfl⟩ := List.mem_map.mp hp
    obtain ⟨h1, h2⟩ := List.mem_filter.mp hi
    refine ⟨⟨i, List.mem_range.mp h1⟩, List.contains_iff_mem.mp h2, ?_⟩
    exact List.mem_cons.mp hx
  · rintro ⟨c, hc, hx⟩
    exact ⟨_, List.mem_map.mpr ⟨c.val, List.mem_filter.mpr ⟨List.mem_range.mpr c.isLt, List.contains_iff_mem.mpr hc⟩, rfl⟩, List.mem_cons.mpr hx⟩
section
variable {R : F4 → F4 → Nat} {σ τ : F4 → F4} {ρ : F4 → Nat} {gl : List Nat} {ml : List (List Nat)}
/-- the rings' own sharing is not bettered -/
theorem not_bett (C : Cert R σ ρ) (hgl : ∀ c : F4, gl.getD c.val 0 = lt4 (σ c)) (hml : ∀ c : F4, ∀ x ∈ ml.getD c.val [], ∃ d, x = lt4 d ∧ R c d < R c (σ c)) : bett gl ml = false := by
  unfold bett
  rw [List.any_eq_false]
  intro k hk
  have hk4 := List.mem_range.mp hk
  rw [Bool.not_eq_true, List.any_eq_false]
  intro f hf
  rw [Bool.not_eq_true]
  have low : ∀ c : F4, ∀ x ∈ ml.getD c.val [], ∃ d, x = lt4 d ∧ ρ d < ρ c := fun c x hx => by
    obtain ⟨d, e, h⟩ := hml c x hx
    exact ⟨d, e, C.best c d h⟩
  have step : ∀ al : List Nat, (∀ x ∈ al, ∃ d, x = lt4 d ∧ ρ d < ρ ⟨k, hk4⟩) → ∀ x ∈ stepA gl ml al, ∃ d, x = lt4 d ∧ ρ d < ρ ⟨k, hk4⟩ := by
    intro al h x hx
    rcases mem_stepA.mp hx with hx | ⟨c, hc, hx | hx⟩
    · exact h x hx
    · obtain ⟨d, e, hd⟩ := h _ hc
      have := lt4_inj e
      subst this
      exact ⟨σ c, hx.trans (hgl c), by rw [C.same]; exact hd⟩
    · obtain ⟨d, e, hd⟩ := h _ hc
      have := lt4_inj e
      subst this
      obtain ⟨d2, e2, h2⟩ := low c x hx
      exact ⟨d2, e2, Nat.lt_trans h2 hd⟩
  have h0 : ∀ x ∈ [f], ∃ d, x = lt4 d ∧ ρ d < ρ ⟨k, hk4⟩ := fun x hx => by
    rw [List.mem_singleton.mp hx]; exact low ⟨k, hk4⟩ f hf
  have h3 := step _ (step _ (step _ h0))
  unfold hitF
  cases q : (stepA gl ml (stepA gl ml (stepA gl ml [f]))).contains (ltrs.getD k 0) with
  | false => rfl
  | true =>
    obtain ⟨d, e, hd⟩ := h3 _ (List.contains_iff_mem.mp q)
    have : (⟨k, hk4⟩ : F4) = d := lt4_inj e
    subst this
    exact absurd hd (Nat.lt_irrefl _)
/-- another one is -/
theorem is_bett (hR : Lin R) (C : Cert R σ ρ) (hτ : ∀ c d, τ c = τ d → c = d) (h : τ ≠ σ) (hgl : ∀ c : F4, gl.getD c.val 0 = lt4 (τ c)) (hml : ∀ c d : F4, R c d < R c (τ c) → lt4 d ∈ ml.getD c.val []) : bett gl ml = true := by
  obtain ⟨c, hc, hall⟩ := other hR C hτ h
  have sub : ∀ al x, x ∈ al → x ∈ stepA gl ml al := fun al x hx => mem_stepA.mpr (.inl hx)
  have go : ∀ al d, ρ d = ρ c → lt4 d ∈ al → lt4 (σ d) ∈ stepA gl ml al := by
    intro al d hd hm
    refine mem_stepA.mpr (.inr ⟨d, hm, ?_⟩)
    rcases hall d hd with e | e
    · exact .inl (by rw [hgl, e])
    · exact .inr (hml d _ e)
  have s1 : ρ (σ c) = ρ c := C.same c
  have s2 : ρ (σ (σ c)) = ρ c := (C.same _).trans s1
  have s3 : ρ (σ (σ (σ c))) = ρ c := (C.same _).trans s2
  have a0 : lt4 (σ c) ∈ [lt4 (σ c)] := List.mem_singleton.mpr rfl
  have a1 := go _ _ s1 a0
  have a2 := go _ _ s2 a1
  have a3 := go _ _ s3 a2
  have hm : lt4 c ∈ stepA gl ml (stepA gl ml (stepA gl ml [lt4 (σ c)])) := by
    rcases (orb C.inj c).2 with e | e | e | e
    · have := sub _ _ (sub _ _ (sub _ _ a0)); rw [show lt4 c = lt4 (σ c) from congrArg lt4 e]; exact this
    · have := sub _ _ (sub _ _ a1); rw [show lt4 c = lt4 (σ (σ c)) from congrArg lt4 e]; exact this
    · have := sub _ _ a2; rw [show lt4 c = lt4 (σ (σ (σ c))) from congrArg lt4 e]; exact this
    · rw [show lt4 c = lt4 (σ (σ (σ (σ c)))) from congrArg lt4 e]; exact a3
  exact List.any_eq_true.mpr ⟨c.val, List.mem_range.mpr c.isLt, List.any_eq_true.mpr ⟨lt4 (σ c), hml c _ hc, List.contains_iff_mem.mpr hm⟩⟩
end
end Wr50
end
section
set_option maxRecDepth 100000
set_option maxHeartbeats 4000000
namespace Wr50
open PySem PySem.W PySem.Calls PyProof.Rows
theorem map_at (f : Nat → Nat) (c : F4) : (ltrs.map f).getD c.val 0 = f (lt4 c) := by
  match c with | 0 => rfl | 1 => rfl | 2 => rfl | 3 => rfl
theorem gl_at {os : List (List Nat)} {gs : List PySem.Str} {σ ρ : Nat → Nat} {r : Nat} (P : Part os [] gs σ ρ r) (c : F4) : (ltrs.map σ).getD c.val 0 = lt4 (sg σ c) := by
  rw [map_at, lt4_sg P]
theorem prefs_at (os : List (List Nat)) (gl : List Nat) (c : F4) : (prefs os gl 4).getD c.val [] = pre1 os gl c.val := by
  match c with | 0 => rfl | 1 => rfl | 2 => rfl | 3 => rfl
theorem mores_at (os : List (List Nat)) (vl : List Nat) (c : F4) : (mores os vl 4).getD c.val [] = betw (os.getD c.val []) (vl.getD c.val 0) 4 := by
  match c with | 0 => rfl | 1 => rfl | 2 => rfl | 3 => rfl
theorem take_idx : ∀ o ∈ perms4, ∀ e : F4, ∀ x ∈ o.take (o.idxOf (lt4 e)), ∃ d : F4, x = lt4 d ∧ o.idxOf (lt4 d) < o.idxOf (lt4 e) := by decide +kernel
theorem perm_inj : ∀ v ∈ perms4, ∀ c d : F4, toF (v.getD c.val 0) = toF (v.getD d.val 0) → c = d := by decide +kernel
theorem perm_lt4 : ∀ v ∈ perms4, ∀ c : F4, lt4 (toF (v.getD c.val 0)) = v.getD c.val 0 := by decide +kernel
theorem four_eq {v u : List Nat} (hv : v.length = 4) (hu : u.length = 4) (h : ∀ c : F4, v.getD c.val 0 = u.getD c.val 0) : v = u := by
  match v, hv, u, hu with
  | [a, b, c, d], _, [a', b', c', d'], _ =>
    have h0 : a = a' := h 0
    have h1 : b = b' := h 1
    have h2 : c = c' := h 2
    have h3 : d = d' := h 3
    rw [h0, h1, h2, h3]
section
variable {os : List (List Nat)} {gs : List PySem.Str} {σ ρ : Nat → Nat} {r : Nat}
theorem law_a (hol : os.length = 4) (hop : ∀ o ∈ os, o ∈ perms4) (P : Part os [] gs σ ρ r) : bett (ltrs.map σ) (prefs os (ltrs.map σ) 4) = false := by
  refine not_bett (cert_of P) (gl_at P) fun c x hx => ?_
  rw [prefs_at, pre1, gl_at P] at hx
  exact take_idx _ (os_at hol hop c) (sg σ c) x hx
theorem law_b (hol : os.length = 4) (hop : ∀ o ∈ os, o ∈ perms4) (P : Part os [] gs σ ρ r) {vl : List Nat} (hv : vl ∈ perms4) (hv4 : vl.length = 4) : bett vl (mores os vl 4) = !decide (vl = ltrs.map σ) := by
  have key : ∀ (c : F4) (x : Nat), x ∈ (mores os vl 4).getD c.val [] ↔ x ∈ ltrs ∧ (os.getD c.val []).idxOf x < (os.getD c.val []).idxOf (vl.getD c.val 0) := by
    intro c x
    rw [mores_at, betw, List.mem_filter, show ltrs.take 4 = ltrs from rfl, bef, decide_eq_true_eq]
  by_cases h : vl = ltrs.map σ
  · rw [decide_eq_true h]
    refine not_bett (cert_of P) (fun c => by rw [h]; exact gl_at P c) fun c x hx => ?_
    obtain ⟨h1, h2⟩ := (key c x).mp hx
    refine ⟨toF x, (lt4_toF x h1).symm, ?_⟩
    show (os.getD c.val []).idxOf (lt4 (toF x)) < (os.getD c.val []).idxOf (lt4 (sg σ c))
    rw [lt4_toF x h1, ← gl_at P, ← h]; exact h2
  · rw [decide_eq_false h]
    refine is_bett (τ := fun c => toF (vl.getD c.val 0)) (rk_lin hol hop) (cert_of P) (perm_inj vl hv) (fun e => h ?_) (fun c => (perm_lt4 vl hv c).symm) fun c d hd => ?_
    · refine four_eq hv4 rfl fun c => ?_
      rw [gl_at P, ← perm_lt4 vl hv c]
      exact congrArg lt4 (congrFun e c)
    · refine (key c _).mpr ⟨lt4_mem d, ?_⟩
      unfold rk at hd
      rw [perm_lt4 vl hv c] at hd
      exact hd
end
theorem map_eq {os os' : List (List Nat)} {gs gs' : List PySem.Str} {σ ρ σ' ρ' : Nat → Nat} {r r' : Nat} (P : Part os [] gs σ ρ r) (P' : Part os' [] gs' σ' ρ' r') (e : sg σ' = sg σ) : ltrs.map σ' = ltrs.map σ :=
  four_eq rfl rfl fun c => by rw [gl_at P, gl_at P', e]
/-- the orders with the liar's false one -/
noncomputable def liedO (os : List (List Nat)) (i : Nat) : List (List Nat) := os.take i ++ [os.getD 4 []] ++ (os.take 4).drop (i + 1)
theorem liedO_len {os : List (List Nat)} (hol : os.length = 5) {i : Nat} (hi : i < 4) : (liedO os i).length = 4 := by
  simp [liedO, hol]; omega
theorem liedO_in {os : List (List Nat)} (hol : os.length = 5) (hop : ∀ o ∈ os, o ∈ perms4) (i : Nat) : ∀ o ∈ liedO os i, o ∈ perms4 := by
  intro o ho
  rcases List.mem_append.mp ho with ho | ho
  · rcases List.mem_append.mp ho with ho | ho
    · exact hop _ (List.mem_of_mem_take ho)
    · rw [List.mem_singleton.mp ho]
      refine hop _ ?_
      rw [List.getD_eq_getElem?_getD, List.getElem?_eq_getElem (by omega)]
      exact List.getElem_mem _
  · exact hop _ (List.mem_of_mem_take (List.mem_of_mem_drop ho))
theorem liedO_at {os : List (List Nat)} (hol : os.length = 5) (i c : F4) (h : c ≠ i) : (os.take 4).getD c.val [] = (liedO os i.val).getD c.val [] := by
  match os, hol with
  | [a, b, d, e, f], _ =>
    match i, c with
    | 0, 0 => exact absurd rfl h
    | 1, 1 => exact absurd rfl h
    | 2, 2 => exact absurd rfl h
    | 3, 3 => exact absurd rfl h
    | 0, 1 => rfl
    | 0, 2 => rfl
    | 0, 3 => rfl
    | 1, 0 => rfl
    | 1, 2 => rfl
    | 1, 3 => rfl
    | 2, 0 => rfl
    | 2, 1 => rfl
    | 2, 3 => rfl
    | 3, 0 => rfl
    | 3, 1 => rfl
    | 3, 2 => rfl
theorem take4_at {os : List (List Nat)} (hol : os.length = 5) (i : Nat) (hi : i < 4) : (os.take 4).getD i [] = os.getD i [] := by
  rw [List.getD_eq_getElem?_getD, List.getD_eq_getElem?_getD, List.getElem?_take, if_pos hi]
theorem law_c {os : List (List Nat)} (hol : os.length = 5) (hop : ∀ o ∈ os, o ∈ perms4) {i : Nat} (hi : i < 4) {gs gs' : List PySem.Str} {σ ρ σ' ρ' : Nat → Nat} {r r' : Nat} (P : Part (os.take 4) [] gs σ ρ r) (P' : Part (liedO os i) [] gs' σ' ρ' r') :
    (os.getD i []).idxOf ((ltrs.map σ).getD i 0) < (os.getD i []).idxOf ((ltrs.map σ').getD i 0) ∨ ltrs.map σ' = ltrs.map σ := by
  have h4 : (os.take 4).length = 4 := by rw [List.length_take, hol]; rfl
  have hop4 : ∀ o ∈ os.take 4, o ∈ perms4 := fun o ho => hop o (List.mem_of_mem_take ho)
  rcases liar ⟨i, hi⟩ (rk_lin h4 hop4) (cert_of P) (cert_of P') (fun c hc x => by unfold rk; rw [liedO_at hol ⟨i, hi⟩ c hc]) with h | h
  · refine .inl ?_
    unfold rk at h
    rw [← gl_at P, ← gl_at P'] at h
    dsimp only at h
    rw [take4_at hol i hi] at h
    exact h
  · exact .inr (map_eq P P' h)
end Wr50
end
section
set_option maxRecDepth 100000
set_option maxHeartbeats 4000000
namespace Wr50
open PySem PySem.W PySem.Calls PyProof.Rows
/-! a dressed order, prepared, is the order -/
theorem joinS_flat : ∀ l : List (List Nat), joinS [] l = l.flatten
  | [] => rfl
  | [p] => by simp [joinS]
  | p :: q :: r => by rw [joinS, List.append_nil, joinS_flat (q :: r)]; rfl
theorem decL_app (a b : List Nat) : decL (a ++ b) = decL a ++ decL b := by
  unfold decL decP
  rw [joinS_flat, joinS_flat, joinS_flat, List.filter_append, List.map_append, List.flatten_append]
theorem decL_nil : decL [] = [] := rfl
theorem decL_rep : ∀ r : Nat, decL (List.replicate r 34) = []
  | 0 => rfl
  | r + 1 => by
    rw [List.replicate_succ, show (34 :: List.replicate r 34) = [34] ++ List.replicate r 34 from rfl, decL_app, decL_rep r]
    rfl
theorem decL_join {sep : List Nat} (hs : decL sep = []) : ∀ l : List (List Nat), decL (joinS sep l) = (l.map decL).flatten
  | [] => rfl
  | [p] => by simp [joinS]
  | p :: q :: r => by
    rw [joinS, decL_app, decL_app, hs, List.append_nil, decL_join hs (q :: r)]; rfl
theorem hid_dec : ∀ i : Fin 27, decL [hid.getD i.val 0] = [] := by decide +kernel
theorem decL_ahd (n : Nat) : decL (ahd n) = [] := by
  unfold ahd
  split
  · exact hid_dec ⟨n / 3 % 27, Nat.mod_lt _ (by decide)⟩
  · rfl
theorem sgn_dec : ∀ c ∈ ltrs, ∀ r : Fin 12, decL [sgn c r.val] = [c] := by decide +kernel
theorem lig_dec : ∀ o ∈ perms4, ∀ k : Fin 4, ∀ b : Fin 2, ligAt o k.val = true → decL [if o.getD k.val 0 = 102 then 64257 else 64261 + b.val] = (o.drop k.val).take 2 := by decide +kernel
/-- what a turn's piece says -/
noncomputable def say1 (o : List Nat) (k r : Nat) : List Nat := if ligAt o k = true ∧ r % 4 < 2 then (o.drop k).take 2 else [o.getD k 0]
noncomputable def says (o : List Nat) (m : Nat) : Nat → Nat → List (List Nat)
  | 0, _ => []
  | f + 1, k => if k < 4 then say1 o k ((m + 5 * k) % 12) :: says o m f (go1 o k ((m + 5 * k) % 12)) else []
theorem sgn_mod (c n : Nat) : sgn c n = sgn c (n % 12) := by unfold sgn; rw [Nat.mod_mod]
theorem lay1_dec {o : List Nat} (ho : o ∈ perms4) {k : Nat} (hk : k < 4) (n : Nat) : decL (lay1 o k n) = say1 o k (n % 12) := by
  have h4 : n % 12 % 4 = n % 4 := by omega
  have hc := (itemF o ho ⟨k, hk⟩).2
  unfold lay1 say1
  rw [h4]
  by_cases h : ligAt o k = true ∧ n % 4 < 2
  · rw [if_pos h, if_pos h, decL_app, decL_ahd, List.nil_append]
    exact lig_dec o ho ⟨k, hk⟩ ⟨n % 2, Nat.mod_lt _ (by decide)⟩ h.1
  · rw [if_neg h, if_neg h, decL_app, decL_ahd, List.nil_append, sgn_mod]
    exact sgn_dec _ hc ⟨n % 12, Nat.mod_lt _ (by decide)⟩
theorem go1_mod (o : List Nat) (k n : Nat) : go1 o k n = go1 o k (n % 12) := by
  unfold go1; rw [show n % 12 % 4 = n % 4 by omega]
theorem lays_dec {o : List Nat} (ho : o ∈ perms4) (m : Nat) : ∀ f k, (lays o m f k).map decL = says o (m % 12) f k
  | 0, _ => rfl
  | f + 1, k => by
    have e : (m % 12 + 5 * k) % 12 = (m + 5 * k) % 12 := by omega
    unfold lays says
    by_cases hk : k < 4
    · rw [if_pos hk, if_pos hk, List.map_cons, lay1_dec ho hk, go1_mod, lays_dec ho m f, e]
    · rw [if_neg hk, if_neg hk]; rfl
theorem says_all : ∀ o ∈ perms4, ∀ r : Fin 12, (says o r.val 4 0).flatten = o := by decide +kernel
theorem dress_dec {o : List Nat} (ho : o ∈ perms4) (m : Nat) : decL (dName o m) = o := by
  unfold dName
  rw [decL_join (decL_rep _), lays_dec ho]
  exact says_all o ho ⟨m % 12, Nat.mod_lt _ (by decide)⟩
/-! four draws name an order -/
theorem ordL_in : ∀ a : Fin 4, ∀ b : Fin 3, ∀ c : Fin 2, ordL a.val b.val c.val ∈ perms4 := by decide +kernel
theorem ordN_in (n : Nat) : ordN n ∈ perms4 := ordL_in ⟨n % 4, Nat.mod_lt _ (by decide)⟩ ⟨n / 4 % 3, Nat.mod_lt _ (by decide)⟩ ⟨n / 12 % 2, Nat.mod_lt _ (by decide)⟩
end Wr50
end
section
set_option maxRecDepth 100000
set_option maxHeartbeats 4000000
namespace Wr50
open PySem PySem.W PySem.Calls PyProof.Rows
@[reducible] noncomputable def q16 : { l : Stmt // l = b26.1.getD 16 st0 } := by
  apply cap
  conv => rhs; whnf
@[reducible] noncomputable def q17 : { l : Stmt // l = b26.1.getD 17 st0 } := by
  apply cap
  conv => rhs; whnf
@[reducible] noncomputable def q18 : { l : Stmt // l = b26.1.getD 18 st0 } := by
  apply cap
  conv => rhs; whnf
theorem sb1 : ∀ i : Fin 4, sliceBounds none (some ((i.val : Nat) : Int)) none 5 = (((0 : Nat) : Int), ((i.val : Nat) : Int), 1) := by decide
theorem sb2 : ∀ i : Fin 4, sliceBounds (some (((i.val : Nat) : Int) + 1)) (some 4) none 5 = (((i.val + 1 : Nat) : Int), ((4 : Nat) : Int), 1) := by decide
theorem law_16 : ∀ (w : World) (os : List (List Nat)) (_ : os.length = 5) (_ : ∀ o ∈ os, o ∈ perms4) (i : Nat) (_ : i < 4) (dp un : Nat) (gd : Option (List Code)) (frs : List Env) (base g : Heap) (mean : ExcName → Option Value) (mg mb : PySem.Str → Option Value)
   (_ : Below (ar dp un gd frs) base frs g) (_ : (KF w.params).In g) (_ : Top qv lo mean mg mb g) (_ : dp + 10 < recursionLimit) (_ : un + 200 < cLine)
   (L : Addr) (mo ta va ha na oa : Addr) (mvs gvs vvs hvs nvs ovs : List Value) (mn tn vn hn n k : Nat) (c2 c3 c4 c5 c6 : Obj) (tl : Tok) (_ : c4.data = .cell (some (.ref ha))) (_ : StrsAre hvs (os.map stL))  (s : Shared) (E : Value → Shared → Prop) (m : PySem.Str → Option Value) (_ : m (Str.ofString "liar") = some (.int (i : Nat) tl))
   (_ : Fr g L s.heap m) (_ : News g L s.heap [(mo, W.listOf mvs.toArray mn), (ta, W.listOf gvs.toArray tn), (va, W.listOf vvs.toArray vn), (ha, W.listOf hvs.toArray hn), (na, W.listOf nvs.toArray n), (oa, W.listOf ovs.toArray k), (L + 1 + 1, c2), (L + 1 + 1 + 1, c3), (L + 1 + 1 + 1 + 1, c4), (L + 1 + 1 + 1 + 1 + 1, c5), (L + 1 + 1 + 1 + 1 + 1 + 1, c6)])
   (_ : PassesOwn (model PySem.Challenge.rw_wr0050_01.prog w) ((ar dp un gd frs).deeper (env26 L)) (env26 L) E),
   wpAny (model PySem.Challenge.rw_wr0050_01.prog w) ((ar dp un gd frs).deeper (env26 L)) (exec q16.1 (env26 L))
       (TurnW s g L m [Str.ofString "lied"] (fun m' nw' => ∃ la lvs ln gs σ ρ r, m' (Str.ofString "lied") = some (.ref la) ∧ StrsAre lvs gs ∧ Part (liedO os i) [] gs σ ρ r ∧ ∀ p ∈ [(la, W.listOf lvs.toArray ln), (mo, W.listOf mvs.toArray mn), (ta, W.listOf gvs.toArray tn), (va, W.listOf vvs.toArray vn), (ha, W.listOf hvs.toArray hn), (na, W.listOf nvs.toArray n), (oa, W.listOf ovs.toArray k), (L + 1 + 1, c2), (L + 1 + 1 + 1, c3), (L + 1 + 1 + 1 + 1, c4), (L + 1 + 1 + 1 + 1 + 1, c5), (L + 1 + 1 + 1 + 1 + 1 + 1, c6)], p ∈ nw')) E s := by
  k_fill
  intro w os hol hop i hi dp un gd frs base g mean mg mb B X T hd hu L mo ta va ha na oa mvs gvs vvs hvs nvs ovs mn tn vn hn n k c2 c3 c4 c5 c6 tl hc4 hhs s E m hml F N hE
  refine hideQ ?_
  intro Q0 hQ0
  have hkk : ∀ p ∈ [(Str.ofString "liar", Value.int (i : Nat) tl)], m p.1 = some p.2 := fun p hp => by rw [List.mem_singleton.mp hp]; exact hml
  have FF := kst_self2 hkk F
  clear F
  have hhl : hvs.length = 5 := by rw [hhs.length, List.length_map, hol]
  k_with "binaryOp Add ref ref" => refine hold ?_
  k_steps
  unfold Hold
  k_with_none
  rename Fr _ _ _ _ => F4
  rename News _ _ _ _ => N4
  have p1 : slicePick hvs.toArray none (some (i : Int)) none = (hvs.take i).toArray := by
    rw [kmk_pick_nat hvs.toArray (a := 0) (b := i) (by rw [List.size_toArray, hhl]; exact sb1 ⟨i, hi⟩)]
    rfl
  have p2 : slicePick hvs.toArray (some ((i : Int) + 1)) (some 4) none = ((hvs.take 4).drop (i + 1)).toArray := by
    rw [kmk_pick_nat hvs.toArray (a := i + 1) (b := 4) (by rw [List.size_toArray, hhl]; exact sb2 ⟨i, hi⟩), List.drop_take]
  rw [p1] at N4
  refine kmk_add_lit F4 N4 (News.isList N4 (.tail _ (.head _))) (News.isList N4 (.head _)) rfl ?_ ?sz
  case sz => simp only [sizeLine_eq, List.length_take, List.length_cons, List.length_nil, hhl]; omega
  intro D5 h5 F5 N5 l5
  dsimp only
  k_with "subscriptTail Name Slice ref ref" => refine hold ?_
  k_steps
  unfold Hold
  k_with_none
  rename Fr _ _ _ _ => F6
  rename News _ _ _ _ => N6
  dsimp only
  refine kmk_slice (s := ⟨h5, s.gens, s.drawn, _, s.os⟩) (its := hvs.toArray) F6 N6 (News.isList N6 (.tail _ (.tail _ (.tail _ (.tail _ (.tail _ (.tail _ (.head _)))))))) (.int ((i : Int) + 1) _) (.int 4 _) ?_ (by rfl) (fun _ => rfl) ?sz
  case sz => rw [List.size_toArray, hhl]; simp only [sizeLine_eq]; decide
  intro D7 h7 F7 N7 l7
  rw [p2] at N7
  try dsimp only
  refine kmk_add_lit F7 N7 (News.isList N7 (.tail _ (.head _))) (News.isList N7 (.head _)) rfl ?_ ?sz
  case sz => simp only [sizeLine_eq, List.length_take, List.length_cons, List.length_nil, hhl, List.length_drop, List.length_append]; omega
  intro D8 h8 F8 N8 l8
  dsimp only
  k_with "call ref" => refine hold ?_
  k_steps
  unfold Hold
  k_with_none
  rename_i h01 t01 l01 h02 l02
  have e2 := getD_stL (ml := os) (i := 4) (by omega)
  have eL : (liedO os i).map stL = ((os.map stL).take i ++ [(os.map stL).getD (Int.toNat 4) PySem.Str.empty]) ++ ((os.map stL).take 4).drop (i + 1) := by
    rw [show (os.map stL).getD (Int.toNat 4) PySem.Str.empty = stL (os.getD 4 []) from e2, liedO, List.map_append, List.map_append, List.map_take, List.map_drop, List.map_take]; rfl
  have hS : StrsAre ((hvs.take i ++ [Value.str ((os.map stL).getD (Int.toNat 4) PySem.Str.empty) t01]) ++ (hvs.take 4).drop (i + 1)) ((liedO os i).map stL) := by
    rw [eL]
    exact StrsAre.append' (StrsAre.append' (StrsAre.take' hhs i) (.cons _ _ .nil)) (StrsAre.drop' (StrsAre.take' hhs 4) (i + 1))
  refine useT (ps_traded w (liedO os i) (liedO_len hol hi) (liedO_in hol hop i) _).toT B F8 N8 X T rfl rfl (room1 hd (by decide)) (room3 hu (by decide)) ⟨?_, _, News.isList N8 (.head _), hS⟩ ?_
  · dsimp only; omega
  rintro v h9 tk9 F9 N9 _ ⟨ta9, gvs9, tn9, gs9, σ, ρ, r, rfl, hn9, hg9, hgs9, hpt⟩ _
  have N10 := news_new F8 F9 (newsSub (nw := [(mo, W.listOf mvs.toArray mn), (ta, W.listOf gvs.toArray tn), (va, W.listOf vvs.toArray vn), (ha, W.listOf hvs.toArray hn), (na, W.listOf nvs.toArray n), (oa, W.listOf ovs.toArray k), (L + 1 + 1, c2), (L + 1 + 1 + 1, c3), (L + 1 + 1 + 1 + 1, c4), (L + 1 + 1 + 1 + 1 + 1, c5), (L + 1 + 1 + 1 + 1 + 1 + 1, c6)]) N9 (by kst_in)) hn9 hg9
  clear N9 N8 N7 N6 N4 l8 l7 l5
  k_steps
  rename Fr _ _ _ _ => FA
  rename News _ _ _ _ => NA
  exact hQ0 _ _ ⟨_, _, _, _, rfl, rfl, FA, NA, fun z hz => name_off hz hkk, ta9, gvs9, tn9, gs9, σ, ρ, r, if_pos rfl, hgs9, hpt, fun p hp => hp⟩
end Wr50
end
section
set_option maxRecDepth 100000
set_option maxHeartbeats 4000000
namespace Wr50
open PySem PySem.W PySem.Calls PyProof.Rows
theorem find_is : ∀ o ∈ perms4, ∀ c ∈ ltrs, Txt.find (stL o) (st1 c) = (o.idxOf c : Int) := by decide +kernel
theorem law_17 : ∀ (w : World) (os : List (List Nat)) (_ : os.length = 4) (_ : ∀ o ∈ os, o ∈ perms4) (gl ll : List Nat) (_ : gl.length = 4) (_ : ll.length = 4) (_ : ∀ c ∈ gl, c ∈ ltrs) (_ : ∀ c ∈ ll, c ∈ ltrs) (i : Nat) (_ : i < 4) (dp un : Nat) (gd : Option (List Code)) (frs : List Env) (base g : Heap) (mean : ExcName → Option Value) (mg mb : PySem.Str → Option Value)
   (_ : Below (ar dp un gd frs) base frs g) (_ : (KF w.params).In g) (_ : Top qv lo mean mg mb g) (_ : dp + 10 < recursionLimit) (_ : un + 200 < cLine)
   (L : Addr) (la mo ta va ha na oa : Addr) (lvs mvs gvs vvs hvs nvs ovs : List Value) (ln mn tn vn hn n k : Nat) (c2 c3 c4 c5 c6 : Obj) (tl : Tok) (_ : c3.data = .cell (some (.ref oa))) (_ : c6.data = .cell (some (.ref ta))) (_ : StrsAre ovs (os.map stL)) (_ : StrsAre gvs (gl.map st1)) (_ : StrsAre lvs (ll.map st1))  (s : Shared) (E : Value → Shared → Prop) (m : PySem.Str → Option Value) (_ : m (Str.ofString "liar") = some (.int (i : Nat) tl)) (_ : m (Str.ofString "lied") = some (.ref la))
   (_ : Fr g L s.heap m) (_ : News g L s.heap [(la, W.listOf lvs.toArray ln), (mo, W.listOf mvs.toArray mn), (ta, W.listOf gvs.toArray tn), (va, W.listOf vvs.toArray vn), (ha, W.listOf hvs.toArray hn), (na, W.listOf nvs.toArray n), (oa, W.listOf ovs.toArray k), (L + 1 + 1, c2), (L + 1 + 1 + 1, c3), (L + 1 + 1 + 1 + 1, c4), (L + 1 + 1 + 1 + 1 + 1, c5), (L + 1 + 1 + 1 + 1 + 1 + 1, c6)])
   (_ : PassesOwn (model PySem.Challenge.rw_wr0050_01.prog w) ((ar dp un gd frs).deeper (env26 L)) (env26 L) E),
   wpAny (model PySem.Challenge.rw_wr0050_01.prog w) ((ar dp un gd frs).deeper (env26 L)) (exec q17.1 (env26 L))
       (TurnW s g L m [Str.ofString "loss"] (fun m' nw' => ∃ t, m' (Str.ofString "loss") = some (.int ((((os.getD i []).idxOf (ll.getD i 0) : Nat) : Int) - (((os.getD i []).idxOf (gl.getD i 0) : Nat) : Int)) t) ∧ ∀ p ∈ [(la, W.listOf lvs.toArray ln), (mo, W.listOf mvs.toArray mn), (ta, W.listOf gvs.toArray tn), (va, W.listOf vvs.toArray vn), (ha, W.listOf hvs.toArray hn), (na, W.listOf nvs.toArray n), (oa, W.listOf ovs.toArray k), (L + 1 + 1, c2), (L + 1 + 1 + 1, c3), (L + 1 + 1 + 1 + 1, c4), (L + 1 + 1 + 1 + 1 + 1, c5), (L + 1 + 1 + 1 + 1 + 1 + 1, c6)], p ∈ nw')) E s := by
  k_fill
  intro w os hol hop gl ll hgl hll hgm hlm i hi dp un gd frs base g mean mg mb B X T hd hu L la mo ta va ha na oa lvs mvs gvs vvs hvs nvs ovs ln mn tn vn hn n k c2 c3 c4 c5 c6 tl hc3 hc6 hos hgs hls s E m hml hmd F N hE
  refine hideQ ?_
  intro Q0 hQ0
  have hkk : ∀ p ∈ [(Str.ofString "liar", Value.int (i : Nat) tl), (Str.ofString "lied", Value.ref la)], m p.1 = some p.2 := fun p hp => by
    rcases List.mem_cons.mp hp with rfl | hp
    · exact hml
    · rw [List.mem_singleton.mp hp]; exact hmd
  have FF := kst_self2 hkk F
  clear F
  have hol2 : ovs.length = 4 := by rw [hos.length, List.length_map, hol]
  have hgl2 : gvs.length = 4 := by rw [hgs.length, List.length_map, hgl]
  have hll2 : lvs.length = 4 := by rw [hls.length, List.length_map, hll]
  have hom : os.getD i [] ∈ os := by rw [List.getD_eq_getElem?_getD, List.getElem?_eq_getElem (by omega)]; exact List.getElem_mem _
  have hcm : gl.getD i 0 ∈ gl := by rw [List.getD_eq_getElem?_getD, List.getElem?_eq_getElem (by omega)]; exact List.getElem_mem _
  have hdm : ll.getD i 0 ∈ ll := by rw [List.getD_eq_getElem?_getD, List.getElem?_eq_getElem (by omega)]; exact List.getElem_mem _
  have e1 := getD_st1 (gl := gl) (i := i) (by omega)
  have e3 := getD_st1 (gl := ll) (i := i) (by omega)
  have e2 := getD_stL (ml := os) (i := i) (by omega)
  have hmi : (stL (os.getD i [])).length ≤ 4 := by show (os.getD i []).toArray.size ≤ 4; rw [List.size_toArray]; exact perms4_len _ (hop _ hom)
  rw [← e2, show i = ((i : Int)).toNat from (Int.toNat_natCast i).symm] at hmi
  have hgi : ((gl.map st1).getD i PySem.Str.empty).length ≤ 1 := by rw [e1]; exact Nat.le_refl _
  rw [show i = ((i : Int)).toNat from (Int.toNat_natCast i).symm] at hgi
  have hdi : ((ll.map st1).getD i PySem.Str.empty).length ≤ 1 := by rw [e3]; exact Nat.le_refl _
  rw [show i = ((i : Int)).toNat from (Int.toNat_natCast i).symm] at hdi
  k_steps
  rename Fr _ _ _ _ => FA
  rename News _ _ _ _ => NA
  have f1 : Txt.find ((os.map stL).getD (i : Int).toNat PySem.Str.empty) ((ll.map st1).getD (i : Int).toNat PySem.Str.empty) = (((os.getD i []).idxOf (ll.getD i 0) : Nat) : Int) := by
    rw [Int.toNat_natCast, e2, e3]; exact find_is _ (hop _ hom) _ (hlm _ hdm)
  have f2 : Txt.find ((os.map stL).getD (i : Int).toNat PySem.Str.empty) ((gl.map st1).getD (i : Int).toNat PySem.Str.empty) = (((os.getD i []).idxOf (gl.getD i 0) : Nat) : Int) := by
    rw [Int.toNat_natCast, e2, e1]; exact find_is _ (hop _ hom) _ (hgm _ hcm)
  exact hQ0 _ _ ⟨_, _, _, _, rfl, rfl, FA, NA, fun z hz => name_off hz hkk, _, (if_pos rfl).trans (by rw [f1, f2]), fun p hp => hp⟩
@[reducible] noncomputable def q18b : { l : Stmt // l = b26.1.getD 18 st0 } := by
  apply cap
  conv => rhs; whnf
theorem law_18 : ∀ (w : World) (gl ll : List Nat) (_ : ∀ c ∈ gl, c ∈ ltrs) (_ : ∀ c ∈ ll, c ∈ ltrs) (d : Int) (_ : 0 < d ∨ (d = 0 ∧ ll = gl)) (dp un : Nat) (gd : Option (List Code)) (frs : List Env) (base g : Heap) (mean : ExcName → Option Value) (mg mb : PySem.Str → Option Value)
   (_ : Below (ar dp un gd frs) base frs g) (_ : (KF w.params).In g) (_ : Top qv lo mean mg mb g) (_ : dp + 10 < recursionLimit) (_ : un + 200 < cLine)
   (L : Addr) (la mo ta va ha na oa : Addr) (lvs mvs gvs vvs hvs nvs ovs : List Value) (ln mn tn vn hn n k : Nat) (c2 c3 c4 c5 c6 : Obj) (td : Tok) (_ : c6.data = .cell (some (.ref ta))) (_ : StrsAre gvs (gl.map st1)) (_ : StrsAre lvs (ll.map st1))  (s : Shared) (E : Value → Shared → Prop) (m : PySem.Str → Option Value) (_ : m (Str.ofString "loss") = some (.int d td)) (_ : m (Str.ofString "lied") = some (.ref la))
   (_ : Fr g L s.heap m) (_ : News g L s.heap [(la, W.listOf lvs.toArray ln), (mo, W.listOf mvs.toArray mn), (ta, W.listOf gvs.toArray tn), (va, W.listOf vvs.toArray vn), (ha, W.listOf hvs.toArray hn), (na, W.listOf nvs.toArray n), (oa, W.listOf ovs.toArray k), (L + 1 + 1, c2), (L + 1 + 1 + 1, c3), (L + 1 + 1 + 1 + 1, c4), (L + 1 + 1 + 1 + 1 + 1, c5), (L + 1 + 1 + 1 + 1 + 1 + 1, c6)])
   (_ : PassesOwn (model PySem.Challenge.rw_wr0050_01.prog w) ((ar dp un gd frs).deeper (env26 L)) (env26 L) E),
   wpAny (model PySem.Challenge.rw_wr0050_01.prog w) ((ar dp un gd frs).deeper (env26 L)) (exec q18b.1 (env26 L))
       (fun fl s' => fl = .ret (.bool true) ∧ ∃ h k, s' = { s with heap := h, toks := k } ∧ ∀ b o, g.get? b = some o → h.get? b = some o) E s := by
  k_fill
  intro w gl ll hgm hlm d hd0 dp un gd frs base g mean mg mb B X T hd hu L la mo ta va ha na oa lvs mvs gvs vvs hvs nvs ovs ln mn tn vn hn n k c2 c3 c4 c5 c6 td hc6 hgs hls s E m hml hmd F N hE
  have hkk : ∀ p ∈ [(Str.ofString "loss", Value.int d td), (Str.ofString "lied", Value.ref la)], m p.1 = some p.2 := fun p hp => by
    rcases List.mem_cons.mp hp with rfl | hp
    · exact hml
    · rw [List.mem_singleton.mp hp]; exact hmd
  have FF := kst_self2 hkk F
  clear F
  rcases hd0 with hd0 | ⟨rfl, rfl⟩
  · k_steps
    · rw [decide_eq_true hd0]
    all_goals exact ⟨_, _, rfl, Fr.keep (by assumption)⟩
  · iterate 20 walk1
    try dsimp only
    refine strs_eq (News.isList N (.head _)) (News.isList N (.tail _ (.tail _ (.head _)))) hls hgs (oks_st1 hlm) (oks_st1 hlm) (by rw [units_deeper]; show un + 3 + 64 < cLine; exact room3 hu (by decide)) ?_
    rw [decide_eq_true rfl]
    exact ⟨rfl, _, _, rfl, FF.keep⟩
end Wr50
end
section
set_option maxRecDepth 100000
set_option maxHeartbeats 4000000
namespace Wr50
open PySem PySem.W PySem.Calls PyProof.Rows
theorem st1s_inj : ∀ {a b : List Nat}, a.map st1 = b.map st1 → a = b
  | [], [], _ => rfl
  | [], b :: r, h => by cases h
  | a :: l, [], h => by cases h
  | a :: l, b :: r, h => by
    have h1 : st1 a = st1 b := (List.cons.inj h).1
    have h2 := st1s_inj (List.cons.inj h).2
    have h3 : a = b := by injection h1 with h1; injection h1 with h1; exact (List.cons.inj h1).1
    rw [h2, h3]
theorem st1_dec (a b : List Nat) : decide (a.map st1 = b.map st1) = decide (a = b) := by
  by_cases h : a = b
  · rw [h, decide_eq_true rfl, decide_eq_true rfl]
  · rw [decide_eq_false h, decide_eq_false (fun e => h (st1s_inj e))]
theorem mores4 (os : List (List Nat)) (vl : List Nat) (hol : os.length = 5) : mores (os.take 4) vl 4 = mores os vl 4 := by
  unfold mores
  refine List.map_congr_left fun k hk => ?_
  rw [take4_at hol k (List.mem_range.mp hk)]
theorem perms4_oks {os : List (List Nat)} (hop : ∀ o ∈ os, o ∈ perms4) : Oks (os.map stL) := by
  intro x hx
  obtain ⟨o, ho, rfl⟩ := List.mem_map.mp hx
  exact (show ∀ o ∈ perms4, PyData.strOk (stL o) = true by decide +kernel) o (hop o ho)
theorem perms4_ltrs : ∀ o ∈ perms4, ∀ x ∈ o, x ∈ ltrs := by decide
@[reducible] noncomputable def q18c : { l : Stmt // l = b26.1.getD 18 st0 } := by
  apply cap
  conv => rhs; whnf
/-- the whole of law -/
theorem law_body : ∀ (w : World) (dp un : Nat) (gd : Option (List Code)) (frs : List Env) (base g : Heap) (mean : ExcName → Option Value) (mg mb : PySem.Str → Option Value)
   (_ : Below (ar dp un gd frs) base frs g) (_ : (KF w.params).In g) (_ : Top qv lo mean mg mb g) (_ : dp + 10 < recursionLimit) (_ : un + 200 < cLine)
   (L sa : Addr) (vs : List Value) (ns : List Int) (co c2 c3 c4 c5 c6 : Obj) (_ : co.data = .cell (some (.ref sa))) (v2 v3 v4 v5 v6 : Option Value) (_ : c2.data = .cell v2) (_ : c3.data = .cell v3) (_ : c4.data = .cell v4) (_ : c5.data = .cell v5) (_ : c6.data = .cell v6)
   (_ : g.IsList sa vs.toArray) (_ : IntsAre vs ns) (_ : ns.length ≤ 63) (s : Shared) (E : Value → Shared → Prop) (m : PySem.Str → Option Value)
   (_ : Fr g L s.heap m) (_ : News g L s.heap [(L + 1, co), (L + 1 + 1, c2), (L + 1 + 1 + 1, c3), (L + 1 + 1 + 1 + 1, c4), (L + 1 + 1 + 1 + 1 + 1, c5), (L + 1 + 1 + 1 + 1 + 1 + 1, c6)])
   (_ : PassesOwn (model PySem.Challenge.rw_wr0050_01.prog w) ((ar dp un gd frs).deeper (env26 L)) (env26 L) E),
   wpAny (model PySem.Challenge.rw_wr0050_01.prog w) ((ar dp un gd frs).deeper (env26 L)) (execs b26.1 (env26 L))
     (fun fl s' => fl = .ret (.bool true) ∧ ∃ h k, s' = { s with heap := h, toks := k } ∧ ∀ b o, g.get? b = some o → h.get? b = some o) E s := by
  intro w dp un gd frs base g mean mg mb B X T hd hu L sa vs ns co c2 c3 c4 c5 c6 hco v2 v3 v4 v5 v6 hc2 hc3 hc4 hc5 hc6 hl hi hn s E m F N hE
  refine hideQ ?_
  intro Q hQ
  show wpAny _ _ (execs [q0.1, q1.1, q2.1, q3.1, q4.1, q5.1, q6.1, q7.1, q8.1, q9.1, q10.1, q11.1, q12.1, q13.1, q14.1, q15.1, q16.1, q17.1, q18b.1] (env26 L)) _ _ _
  refine wpAny_execs_cons (turn_go (law_0 w dp un gd frs base g mean mg mb B X T hd hu L sa vs ns co c2 c3 c4 c5 c6 hco hl hi hn s E m F N hE) fun h1 k1 m1 nw1 F1 N1 hs1 q => ?_)
  show wpAny _ _ (execs [q1.1, q2.1, q3.1, q4.1, q5.1, q6.1, q7.1, q8.1, q9.1, q10.1, q11.1, q12.1, q13.1, q14.1, q15.1, q16.1, q17.1, q18b.1] (env26 L)) _ _ ⟨h1, s.gens, s.drawn, k1, s.os⟩
  obtain ⟨na, nvs, nn, n, hmn, hni, hnb, hnl, hsub1⟩ := q
  have M1 := newsSub (nw := [(na, W.listOf nvs.toArray n), (L + 1 + 1, c2), (L + 1 + 1 + 1, c3), (L + 1 + 1 + 1 + 1, c4), (L + 1 + 1 + 1 + 1 + 1, c5), (L + 1 + 1 + 1 + 1 + 1 + 1, c6)]) (newsSub N1 hsub1) (by kst_in)
  refine wpAny_execs_cons (turn_go (law_1 w nn hnl hnb dp un gd frs base g mean mg mb B X T hd hu L na nvs n c2 c3 c4 c5 c6 v3 hc3 hni ⟨_, _, _, _, _⟩ E m1 hmn F1 M1 hE) fun h2 k2 m2 nw2 F2 N2 hs2 q => ?_)
  show wpAny _ _ (execs [q2.1, q3.1, q4.1, q5.1, q6.1, q7.1, q8.1, q9.1, q10.1, q11.1, q12.1, q13.1, q14.1, q15.1, q16.1, q17.1, q18b.1] (env26 L)) _ _ ⟨h2, s.gens, s.drawn, k2, s.os⟩
  obtain ⟨oa, ovs, k, d3, hd3, hos, hsub2⟩ := q
  have M2 := newsSub (nw := [(na, W.listOf nvs.toArray n), (oa, W.listOf ovs.toArray k), (L + 1 + 1, c2), (L + 1 + 1 + 1, d3), (L + 1 + 1 + 1 + 1, c4), (L + 1 + 1 + 1 + 1 + 1, c5), (L + 1 + 1 + 1 + 1 + 1 + 1, c6)]) (newsSub N2 hsub2) (by kst_in)
  have hmn2 := (hs2 _ rfl).trans hmn
  refine wpAny_execs_cons (turn_go (law_2 w nn hnl dp un gd frs base g mean mg mb B X T hd hu L na oa nvs ovs n k _ (by simp [hnl]) c2 d3 c4 c5 c6 hd3 hni hos ⟨_, _, _, _, _⟩ E m2 hmn2 F2 M2 hE) fun h3 k3 m3 nw3 F3 N3 hs3 q => ?_)
  show wpAny _ _ (execs [q3.1, q4.1, q5.1, q6.1, q7.1, q8.1, q9.1, q10.1, q11.1, q12.1, q13.1, q14.1, q15.1, q16.1, q17.1, q18b.1] (env26 L)) _ _ ⟨h3, s.gens, s.drawn, k3, s.os⟩
  obtain ⟨ma, mvs, j, hmm, hms, hsub3⟩ := q
  have M3 := newsSub (nw := [(ma, W.listOf mvs.toArray j), (na, W.listOf nvs.toArray n), (oa, W.listOf ovs.toArray k), (L + 1 + 1, c2), (L + 1 + 1 + 1, d3), (L + 1 + 1 + 1 + 1, c4), (L + 1 + 1 + 1 + 1 + 1, c5), (L + 1 + 1 + 1 + 1 + 1 + 1, c6)]) (newsSub N3 hsub3) (by kst_in)
  have hmn3 := (hs3 _ (by decide)).trans hmn2
  refine wpAny_execs_cons (turn_go (law_3 w nn hnl dp un gd frs base g mean mg mb B X T hd hu L na oa ma nvs ovs mvs n k j c2 d3 c4 c5 c6 hni ⟨_, _, _, _, _⟩ E m3 hmn3 F3 M3 hE) fun h4 k4 m4 nw4 F4 N4 hs4 q => ?_)
  show wpAny _ _ (execs [q4.1, q5.1, q6.1, q7.1, q8.1, q9.1, q10.1, q11.1, q12.1, q13.1, q14.1, q15.1, q16.1, q17.1, q18b.1] (env26 L)) _ _ ⟨h4, s.gens, s.drawn, k4, s.os⟩
  obtain ⟨da, dvs, j9, hmd, hds, hsub4⟩ := q
  have M4 := newsSub (nw := [(da, W.listOf dvs.toArray j9), (ma, W.listOf mvs.toArray j), (na, W.listOf nvs.toArray n), (oa, W.listOf ovs.toArray k), (L + 1 + 1, c2), (L + 1 + 1 + 1, d3), (L + 1 + 1 + 1 + 1, c4), (L + 1 + 1 + 1 + 1 + 1, c5), (L + 1 + 1 + 1 + 1 + 1 + 1, c6)]) (newsSub N4 hsub4) (by kst_in)
  have hmn4 := (hs4 _ (by decide)).trans hmn3
  have hmm4 := (hs4 _ (by decide)).trans hmm
  refine wpAny_execs_cons (turn_go (law_4 w dp un gd frs base g mean mg mb B X T hd hu L na oa ma da nvs ovs mvs dvs n k j j9 c2 d3 c4 c5 c6 v4 hc4 ⟨_, _, _, _, _⟩ E m4 F4 M4 hE) fun h5 k5 m5 nw5 F5 N5 hs5 q => ?_)
  show wpAny _ _ (execs [q5.1, q6.1, q7.1, q8.1, q9.1, q10.1, q11.1, q12.1, q13.1, q14.1, q15.1, q16.1, q17.1, q18b.1] (env26 L)) _ _ ⟨h5, s.gens, s.drawn, k5, s.os⟩
  obtain ⟨ha, hn5, d4, hd4, hap, hg, hsub5⟩ := q
  have M5 := newsSub (nw := [(ha, W.listOf #[] hn5), (da, W.listOf dvs.toArray j9), (ma, W.listOf mvs.toArray j), (na, W.listOf nvs.toArray n), (oa, W.listOf ovs.toArray k), (L + 1 + 1, c2), (L + 1 + 1 + 1, d3), (L + 1 + 1 + 1 + 1, d4), (L + 1 + 1 + 1 + 1 + 1, c5), (L + 1 + 1 + 1 + 1 + 1 + 1, c6)]) (newsSub N5 hsub5) (by kst_in)
  have hmn5 := (hs5 _ rfl).trans hmn4
  have hmm5 := (hs5 _ rfl).trans hmm4
  have hmd5 := (hs5 _ rfl).trans hmd
  obtain ⟨os, hose⟩ : ∃ os : List (List Nat), os = (nn.take 4).map ordN ++ [ordN (nn.getD 5 0 / 4)] := ⟨_, rfl⟩
  obtain ⟨ds, hdse⟩ : ∃ ds : List Nat, ds = (nn.take 4).map (· / 24) ++ [nn.getD 5 0 / 96] := ⟨_, rfl⟩
  have hol : os.length = 5 := by rw [hose]; simp [hnl]
  have hdl : ds.length = 5 := by rw [hdse]; simp [hnl]
  have hop : ∀ o ∈ os, o ∈ perms4 := by
    intro o ho
    rw [hose] at ho
    rcases List.mem_append.mp ho with ho | ho
    · obtain ⟨x, _, rfl⟩ := List.mem_map.mp ho; exact ordN_in x
    · rw [List.mem_singleton.mp ho]; exact ordN_in _
  have hn5b : nn.getD 5 0 < 1000000 := by
    rw [List.getD_eq_getElem?_getD, List.getElem?_eq_getElem (by omega)]
    exact hnb _ (List.getElem_mem _)
  have hdb : ∀ d ∈ ds, d < 1000000 := by
    intro d hd
    rw [hdse] at hd
    rcases List.mem_append.mp hd with hd | hd
    · obtain ⟨x, hx, rfl⟩ := List.mem_map.mp hd
      exact Nat.lt_of_le_of_lt (Nat.div_le_self _ _) (hnb x (List.mem_of_mem_take hx))
    · rw [List.mem_singleton.mp hd]; exact Nat.lt_of_le_of_lt (Nat.div_le_self _ _) hn5b
  have hdec : ∀ o ∈ os, ∀ d, decL (dName o d) = o := fun o ho d => dress_dec (hop o ho) d
  have ht4 : os.take 4 = (nn.take 4).map ordN := by rw [hose, List.take_append_of_le_length (by simp [hnl]), List.take_of_length_le (by simp [hnl])]
  have hms : StrsAre mvs (os.map stL) := by rw [hose, List.map_append]; exact hms
  rw [← ht4] at hos
  rw [← hdse] at hds
  have hol4 : (os.take 4).length = 4 := by rw [List.length_take, hol]; rfl
  have hop4 : ∀ o ∈ os.take 4, o ∈ perms4 := fun o ho => hop o (List.mem_of_mem_take ho)
  refine wpAny_execs_cons (turn_go (hear_loop w os ds hol hdl hop hdb hdec dp un gd frs base g mean mg mb B X T hd hu L ha na oa ma da nvs ovs mvs dvs hn5 n k j j9 c2 d3 d4 c5 c6 v2 hc2 hd4 hap hg hms hds ⟨_, _, _, _, _⟩ E m5 hmm5 hmd5 F5 M5 hE) fun h6 k6 m6 nw6 F6 N6 hs6 q => ?_)
  show wpAny _ _ (execs [q6.1, q7.1, q8.1, q9.1, q10.1, q11.1, q12.1, q13.1, q14.1, q15.1, q16.1, q17.1, q18b.1] (env26 L)) _ _ ⟨h6, s.gens, s.drawn, k6, s.os⟩
  obtain ⟨hvs, hn, d2, hhs, ⟨w2, hd2⟩, hsub6⟩ := q
  have M6 := newsSub (nw := [(na, W.listOf nvs.toArray n), (oa, W.listOf ovs.toArray k), (ha, W.listOf hvs.toArray hn), (ma, W.listOf mvs.toArray j), (L + 1 + 1, d2), (L + 1 + 1 + 1, d3), (L + 1 + 1 + 1 + 1, d4), (L + 1 + 1 + 1 + 1 + 1, c5), (L + 1 + 1 + 1 + 1 + 1 + 1, c6)]) (newsSub N6 hsub6) (by kst_in)
  have hmn6 := (hs6 _ (by decide)).trans hmn5
  have hmm6 := (hs6 _ (by decide)).trans hmm5
  refine wpAny_execs_cons (turn_go (law_6 w (os.map stL) (perms4_oks hop) dp un gd frs base g mean mg mb B X T hd hu L ha na oa ma hvs nvs ovs mvs hn n k j d2 d3 d4 c5 c6 hd4 ⟨hhs, hms⟩ (by rw [List.length_map]; exact hol) ⟨_, _, _, _, _⟩ E m6 hmm6 F6 M6 hE) fun h7 k7 m7 nw7 F7 N7 hs7 q => ?_)
  show wpAny _ _ (execs [q7.1, q8.1, q9.1, q10.1, q11.1, q12.1, q13.1, q14.1, q15.1, q16.1, q17.1, q18b.1] (env26 L)) _ _ ⟨h7, s.gens, s.drawn, k7, s.os⟩
  have hsub7 := q
  have M7 := newsSub (nw := [(ha, W.listOf hvs.toArray hn), (na, W.listOf nvs.toArray n), (oa, W.listOf ovs.toArray k), (L + 1 + 1, d2), (L + 1 + 1 + 1, d3), (L + 1 + 1 + 1 + 1, d4), (L + 1 + 1 + 1 + 1 + 1, c5), (L + 1 + 1 + 1 + 1 + 1 + 1, c6)]) (newsSub N7 hsub7) (by kst_in)
  have hmn7 := (hs7 _ rfl).trans hmn6
  refine wpAny_execs_cons (turn_go (law_7 w nn hnl dp un gd frs base g mean mg mb B X T hd hu L ha na oa hvs nvs ovs hn n k d2 d3 d4 c5 c6 hni ⟨_, _, _, _, _⟩ E m7 hmn7 F7 M7 hE) fun h8 k8 m8 nw8 F8 N8 hs8 q => ?_)
  show wpAny _ _ (execs [q8.1, q9.1, q10.1, q11.1, q12.1, q13.1, q14.1, q15.1, q16.1, q17.1, q18b.1] (env26 L)) _ _ ⟨h8, s.gens, s.drawn, k8, s.os⟩
  obtain ⟨tsh, hmsh, hsub8⟩ := q
  have M8 := newsSub (nw := [(ha, W.listOf hvs.toArray hn), (na, W.listOf nvs.toArray n), (oa, W.listOf ovs.toArray k), (L + 1 + 1, d2), (L + 1 + 1 + 1, d3), (L + 1 + 1 + 1 + 1, d4), (L + 1 + 1 + 1 + 1 + 1, c5), (L + 1 + 1 + 1 + 1 + 1 + 1, c6)]) (newsSub N8 hsub8) (by kst_in)
  have hmn8 := (hs8 _ (by decide)).trans hmn7
  obtain ⟨sh, hshe⟩ : ∃ sh : List Nat, sh = ordN (nn.getD 4 0) := ⟨_, rfl⟩
  have hsp : sh ∈ perms4 := by rw [hshe]; exact ordN_in _
  rw [← hshe] at hmsh
  refine wpAny_execs_cons (turn_go (law_8 w dp un gd frs base g mean mg mb B X T hd hu L ha na oa hvs nvs ovs hn n k d2 d3 d4 c5 c6 v5 hc5 ⟨_, _, _, _, _⟩ E m8 F8 M8 hE) fun h9 k9 m9 nw9 F9 N9 hs9 q => ?_)
  show wpAny _ _ (execs [q9.1, q10.1, q11.1, q12.1, q13.1, q14.1, q15.1, q16.1, q17.1, q18b.1] (env26 L)) _ _ ⟨h9, s.gens, s.drawn, k9, s.os⟩
  obtain ⟨va, vn9, d5, hd5, hap9, hg9, hsub9⟩ := q
  have M9 := newsSub (nw := [(va, W.listOf #[] vn9), (ha, W.listOf hvs.toArray hn), (na, W.listOf nvs.toArray n), (oa, W.listOf ovs.toArray k), (L + 1 + 1, d2), (L + 1 + 1 + 1, d3), (L + 1 + 1 + 1 + 1, d4), (L + 1 + 1 + 1 + 1 + 1, d5), (L + 1 + 1 + 1 + 1 + 1 + 1, c6)]) (newsSub N9 hsub9) (by kst_in)
  have hmn9 := (hs9 _ rfl).trans hmn8
  have hmsh9 := (hs9 _ rfl).trans hmsh
  refine wpAny_execs_cons (turn_go (port_loop w nn sh hnl hsp tsh dp un gd frs base g mean mg mb B X T hd hu L va ha na oa hvs nvs ovs vn9 hn n k d2 d3 d4 d5 c6 w2 hd2 hd5 hap9 hg9 hni ⟨_, _, _, _, _⟩ E m9 hmn9 hmsh9 F9 M9 hE) fun h10 k10 m10 nw10 F10 N10 hs10 q => ?_)
  show wpAny _ _ (execs [q10.1, q11.1, q12.1, q13.1, q14.1, q15.1, q16.1, q17.1, q18b.1] (env26 L)) _ _ ⟨h10, s.gens, s.drawn, k10, s.os⟩
  obtain ⟨vvs, vn, e2, hvs2, ⟨x2, he2⟩, hsub10⟩ := q
  have M10 := newsSub (nw := [(va, W.listOf vvs.toArray vn), (ha, W.listOf hvs.toArray hn), (na, W.listOf nvs.toArray n), (oa, W.listOf ovs.toArray k), (L + 1 + 1, e2), (L + 1 + 1 + 1, d3), (L + 1 + 1 + 1 + 1, d4), (L + 1 + 1 + 1 + 1 + 1, d5), (L + 1 + 1 + 1 + 1 + 1 + 1, c6)]) (newsSub N10 hsub10) (by kst_in)
  have hmn10 := (hs10 _ (by decide)).trans hmn9
  refine wpAny_execs_cons (turn_go (law_10 w os hol hop dp un gd frs base g mean mg mb B X T hd hu L va ha na oa vvs hvs nvs ovs vn hn n k e2 d3 d4 d5 c6 v6 hc6 hd4 hhs ⟨_, _, _, _, _⟩ E m10 F10 M10 hE) fun h11 k11 m11 nw11 F11 N11 hs11 q => ?_)
  show wpAny _ _ (execs [q11.1, q12.1, q13.1, q14.1, q15.1, q16.1, q17.1, q18b.1] (env26 L)) _ _ ⟨h11, s.gens, s.drawn, k11, s.os⟩
  obtain ⟨ta, gvs, tn, gs, σ, ρ, r, d6, hd6, hgs, hpt, hsub11⟩ := q
  have M11 := newsSub (nw := [(ta, W.listOf gvs.toArray tn), (va, W.listOf vvs.toArray vn), (ha, W.listOf hvs.toArray hn), (na, W.listOf nvs.toArray n), (oa, W.listOf ovs.toArray k), (L + 1 + 1, e2), (L + 1 + 1 + 1, d3), (L + 1 + 1 + 1 + 1, d4), (L + 1 + 1 + 1 + 1 + 1, d5), (L + 1 + 1 + 1 + 1 + 1 + 1, d6)]) (newsSub N11 hsub11) (by kst_in)
  have hmn11 := (hs11 _ rfl).trans hmn10
  obtain ⟨gl, hgle⟩ : ∃ gl : List Nat, gl = ltrs.map σ := ⟨_, rfl⟩
  have hgl : gl.length = 4 := by rw [hgle]; rfl
  have hgm : ∀ c ∈ gl, c ∈ ltrs := by
    intro c hc
    rw [hgle] at hc
    obtain ⟨x, hx, rfl⟩ := List.mem_map.mp hc
    exact (hpt.mem x hx (by simp)).1
  have hgs : StrsAre gvs (gl.map st1) := by
    have e : gs = gl.map st1 := by
      rw [hpt.gets, hgle, List.map_map]
      refine List.map_congr_left fun c _ => ?_
      simp
    rw [← e]; exact hgs
  have hbe : bett gl (prefs (os.take 4) gl 4) = false := by rw [hgle]; exact law_a hol4 hop4 hpt
  refine wpAny_execs_cons (turn_go (law_11 w (os.take 4) hol4 hop4 gl hgl hgm hbe dp un gd frs base g mean mg mb B X T hd hu L ta va ha na oa gvs vvs hvs nvs ovs tn vn hn n k e2 d3 d4 d5 d6 hd3 hd6 hos hgs ⟨_, _, _, _, _⟩ E m11 F11 M11 hE) fun h12 k12 m12 nw12 F12 N12 hs12 q => ?_)
  show wpAny _ _ (execs [q12.1, q13.1, q14.1, q15.1, q16.1, q17.1, q18b.1] (env26 L)) _ _ ⟨h12, s.gens, s.drawn, k12, s.os⟩
  have hsub12 := q
  have M12 := newsSub (nw := [(ta, W.listOf gvs.toArray tn), (va, W.listOf vvs.toArray vn), (ha, W.listOf hvs.toArray hn), (na, W.listOf nvs.toArray n), (oa, W.listOf ovs.toArray k), (L + 1 + 1, e2), (L + 1 + 1 + 1, d3), (L + 1 + 1 + 1 + 1, d4), (L + 1 + 1 + 1 + 1 + 1, d5), (L + 1 + 1 + 1 + 1 + 1 + 1, d6)]) (newsSub N12 hsub12) (by kst_in)
  have hmn12 := (hs12 _ rfl).trans hmn11
  refine wpAny_execs_cons (turn_go (law_12 w dp un gd frs base g mean mg mb B X T hd hu L ta va ha na oa gvs vvs hvs nvs ovs tn vn hn n k e2 d3 d4 d5 d6 ⟨_, _, _, _, _⟩ E m12 F12 M12 hE) fun h13 k13 m13 nw13 F13 N13 hs13 q => ?_)
  show wpAny _ _ (execs [q13.1, q14.1, q15.1, q16.1, q17.1, q18b.1] (env26 L)) _ _ ⟨h13, s.gens, s.drawn, k13, s.os⟩
  obtain ⟨mo, mn13, hmo, hap13, hg13, hsub13⟩ := q
  have M13 := newsSub (nw := [(mo, W.listOf #[] mn13), (ta, W.listOf gvs.toArray tn), (va, W.listOf vvs.toArray vn), (ha, W.listOf hvs.toArray hn), (na, W.listOf nvs.toArray n), (oa, W.listOf ovs.toArray k), (L + 1 + 1, e2), (L + 1 + 1 + 1, d3), (L + 1 + 1 + 1 + 1, d4), (L + 1 + 1 + 1 + 1 + 1, d5), (L + 1 + 1 + 1 + 1 + 1 + 1, d6)]) (newsSub N13 hsub13) (by kst_in)
  have hmn13 := (hs13 _ (by decide)).trans hmn12
  have hvl : sh.length = 4 := perms4_len4 _ hsp
  have hvm := perms4_ltrs sh hsp
  refine wpAny_execs_cons (turn_go (bet_loop w os hol hop sh hvl hvm dp un gd frs base g mean mg mb B X T hd hu L mo ta va ha na oa gvs vvs hvs nvs ovs mn13 tn vn hn n k e2 d3 d4 d5 d6 x2 he2 hd4 hd5 hhs hvs2 hap13 hg13 ⟨_, _, _, _, _⟩ E m13 hmo F13 M13 hE) fun h14 k14 m14 nw14 F14 N14 hs14 q => ?_)
  show wpAny _ _ (execs [q14.1, q15.1, q16.1, q17.1, q18b.1] (env26 L)) _ _ ⟨h14, s.gens, s.drawn, k14, s.os⟩
  obtain ⟨mvs2, mn, f2, hmvs, ⟨y2, hf2⟩, hsub14⟩ := q
  have M14 := newsSub (nw := [(mo, W.listOf mvs2.toArray mn), (ta, W.listOf gvs.toArray tn), (va, W.listOf vvs.toArray vn), (ha, W.listOf hvs.toArray hn), (na, W.listOf nvs.toArray n), (oa, W.listOf ovs.toArray k), (L + 1 + 1, f2), (L + 1 + 1 + 1, d3), (L + 1 + 1 + 1 + 1, d4), (L + 1 + 1 + 1 + 1 + 1, d5), (L + 1 + 1 + 1 + 1 + 1 + 1, d6)]) (newsSub N14 hsub14) (by kst_in)
  have hmn14 := (hs14 _ (by decide)).trans hmn13
  have hmo14 := (hs14 _ (by decide)).trans hmo
  have hml4 : (mores os sh 4).length = 4 := by simp [mores]
  have hmm4' : ∀ p ∈ mores os sh 4, p.length ≤ 4 := by
    intro p hp
    obtain ⟨x, _, rfl⟩ := List.mem_map.mp hp
    exact betw_len _ _
  have hm128 : ∀ p ∈ mores os sh 4, ∀ x ∈ p, x < 128 := by
    intro p hp x hx
    obtain ⟨y, _, rfl⟩ := List.mem_map.mp hp
    have hxl : x ∈ ltrs := List.mem_of_mem_take (List.mem_filter.mp hx).1
    exact (show ∀ c ∈ ltrs, c < 128 by decide) x hxl
  have hbe2 : bett sh (mores os sh 4) = !decide (sh.map st1 = gl.map st1) := by
    rw [st1_dec, ← mores4 os sh hol, hgle]
    exact law_b hol4 hop4 hpt hsp hvl
  refine wpAny_execs_cons (turn_go (law_14 w sh gl (mores os sh 4) hvl hml4 hmm4' hm128 hvm hgm hbe2 dp un gd frs base g mean mg mb B X T hd hu L mo ta va ha na oa mvs2 gvs vvs hvs nvs ovs mn tn vn hn n k f2 d3 d4 d5 d6 hd5 hd6 hmvs hvs2 hgs ⟨_, _, _, _, _⟩ E m14 hmo14 F14 M14 hE) fun h15 k15 m15 nw15 F15 N15 hs15 q => ?_)
  show wpAny _ _ (execs [q15.1, q16.1, q17.1, q18b.1] (env26 L)) _ _ ⟨h15, s.gens, s.drawn, k15, s.os⟩
  have hsub15 := q
  have M15 := newsSub (nw := [(mo, W.listOf mvs2.toArray mn), (ta, W.listOf gvs.toArray tn), (va, W.listOf vvs.toArray vn), (ha, W.listOf hvs.toArray hn), (na, W.listOf nvs.toArray n), (oa, W.listOf ovs.toArray k), (L + 1 + 1, f2), (L + 1 + 1 + 1, d3), (L + 1 + 1 + 1 + 1, d4), (L + 1 + 1 + 1 + 1 + 1, d5), (L + 1 + 1 + 1 + 1 + 1 + 1, d6)]) (newsSub N15 hsub15) (by kst_in)
  have hmn15 := (hs15 _ rfl).trans hmn14
  refine wpAny_execs_cons (turn_go (law_15 w nn hnl dp un gd frs base g mean mg mb B X T hd hu L mo ta va ha na oa mvs2 gvs vvs hvs nvs ovs mn tn vn hn n k f2 d3 d4 d5 d6 hni ⟨_, _, _, _, _⟩ E m15 hmn15 F15 M15 hE) fun h16 k16 m16 nw16 F16 N16 hs16 q => ?_)
  show wpAny _ _ (execs [q16.1, q17.1, q18b.1] (env26 L)) _ _ ⟨h16, s.gens, s.drawn, k16, s.os⟩
  obtain ⟨tl, hml, hsub16⟩ := q
  have M16 := newsSub (nw := [(mo, W.listOf mvs2.toArray mn), (ta, W.listOf gvs.toArray tn), (va, W.listOf vvs.toArray vn), (ha, W.listOf hvs.toArray hn), (na, W.listOf nvs.toArray n), (oa, W.listOf ovs.toArray k), (L + 1 + 1, f2), (L + 1 + 1 + 1, d3), (L + 1 + 1 + 1 + 1, d4), (L + 1 + 1 + 1 + 1 + 1, d5), (L + 1 + 1 + 1 + 1 + 1 + 1, d6)]) (newsSub N16 hsub16) (by kst_in)
  obtain ⟨i, hie⟩ : ∃ i : Nat, i = nn.getD 5 0 % 4 := ⟨_, rfl⟩
  have hi4 : i < 4 := by rw [hie]; exact Nat.mod_lt _ (by decide)
  rw [← hie] at hml
  refine wpAny_execs_cons (turn_go (law_16 w os hol hop i hi4 dp un gd frs base g mean mg mb B X T hd hu L mo ta va ha na oa mvs2 gvs vvs hvs nvs ovs mn tn vn hn n k f2 d3 d4 d5 d6 tl hd4 hhs ⟨_, _, _, _, _⟩ E m16 hml F16 M16 hE) fun h17 k17 m17 nw17 F17 N17 hs17 q => ?_)
  show wpAny _ _ (execs [q17.1, q18b.1] (env26 L)) _ _ ⟨h17, s.gens, s.drawn, k17, s.os⟩
  obtain ⟨la, lvs, ln, gs2, σ2, ρ2, r2, hmla, hls, hpt2, hsub17⟩ := q
  have M17 := newsSub (nw := [(la, W.listOf lvs.toArray ln), (mo, W.listOf mvs2.toArray mn), (ta, W.listOf gvs.toArray tn), (va, W.listOf vvs.toArray vn), (ha, W.listOf hvs.toArray hn), (na, W.listOf nvs.toArray n), (oa, W.listOf ovs.toArray k), (L + 1 + 1, f2), (L + 1 + 1 + 1, d3), (L + 1 + 1 + 1 + 1, d4), (L + 1 + 1 + 1 + 1 + 1, d5), (L + 1 + 1 + 1 + 1 + 1 + 1, d6)]) (newsSub N17 hsub17) (by kst_in)
  have hml17 := (hs17 _ (by decide)).trans hml
  obtain ⟨ll, hlle⟩ : ∃ ll : List Nat, ll = ltrs.map σ2 := ⟨_, rfl⟩
  have hll : ll.length = 4 := by rw [hlle]; rfl
  have hlm : ∀ c ∈ ll, c ∈ ltrs := by
    intro c hc
    rw [hlle] at hc
    obtain ⟨x, hx, rfl⟩ := List.mem_map.mp hc
    exact (hpt2.mem x hx (by simp)).1
  have hls : StrsAre lvs (ll.map st1) := by
    have e : gs2 = ll.map st1 := by
      rw [hpt2.gets, hlle, List.map_map]
      refine List.map_congr_left fun c _ => ?_
      simp
    rw [← e]; exact hls
  refine wpAny_execs_cons (turn_go (law_17 w (os.take 4) hol4 hop4 gl ll hgl hll hgm hlm i hi4 dp un gd frs base g mean mg mb B X T hd hu L la mo ta va ha na oa lvs mvs2 gvs vvs hvs nvs ovs ln mn tn vn hn n k f2 d3 d4 d5 d6 tl hd3 hd6 hos hgs hls ⟨_, _, _, _, _⟩ E m17 hml17 hmla F17 M17 hE) fun h18 k18 m18 nw18 F18 N18 hs18 q => ?_)
  show wpAny _ _ (execs [q18b.1] (env26 L)) _ _ ⟨h18, s.gens, s.drawn, k18, s.os⟩
  obtain ⟨td, hmlo, hsub18⟩ := q
  have M18 := newsSub (nw := [(la, W.listOf lvs.toArray ln), (mo, W.listOf mvs2.toArray mn), (ta, W.listOf gvs.toArray tn), (va, W.listOf vvs.toArray vn), (ha, W.listOf hvs.toArray hn), (na, W.listOf nvs.toArray n), (oa, W.listOf ovs.toArray k), (L + 1 + 1, f2), (L + 1 + 1 + 1, d3), (L + 1 + 1 + 1 + 1, d4), (L + 1 + 1 + 1 + 1 + 1, d5), (L + 1 + 1 + 1 + 1 + 1 + 1, d6)]) (newsSub N18 hsub18) (by kst_in)
  have hmla18 := (hs18 _ (by decide)).trans hmla
  have hfin : 0 < (((os.take 4).getD i []).idxOf (ll.getD i 0) : Int) - (((os.take 4).getD i []).idxOf (gl.getD i 0) : Int) ∨ ((((os.take 4).getD i []).idxOf (ll.getD i 0) : Int) - (((os.take 4).getD i []).idxOf (gl.getD i 0) : Int) = 0 ∧ ll = gl) := by
    rw [take4_at hol i hi4]
    rcases law_c hol hop hi4 hpt hpt2 with h | h
    · rw [← hgle, ← hlle] at h
      left; omega
    · rw [← hgle, ← hlle] at h
      right
      exact ⟨by rw [h]; omega, h⟩
  refine wpAny_execs_cons (wpAny_mono (law_18 w gl ll hgm hlm _ hfin dp un gd frs base g mean mg mb B X T hd hu L la mo ta va ha na oa lvs mvs2 gvs vvs hvs nvs ovs ln mn tn vn hn n k f2 d3 d4 d5 d6 td hd6 hgs hls ⟨_, _, _, _, _⟩ E m18 hmlo hmla18 F18 M18 hE) (fun fl s19 q => ?_) fun _ _ x => x)
  obtain ⟨rfl, h19, k19, rfl, hk19⟩ := q
  exact hQ _ _ ⟨rfl, h19, k19, rfl, hk19⟩
end Wr50
end
section
set_option maxRecDepth 100000
set_option maxHeartbeats 4000000
namespace Wr50
open PySem PySem.W PySem.Calls PyProof.Rows
theorem ps_law (w : World) (sa : Addr) (vs : List Value) (ns : List Int) (hi : IntsAre vs ns) (hn : ns.length ≤ 63) :
    PS w 209 [.ref sa] 10 200 (fun s => s.heap.IsList sa vs.toArray) (fun v _ _ => v = .bool true) := by
  unfold PS; k_fill
  intro dp un gd frs base mean mg mb s Q E B X T hd hu hpre hret
  refine wpAny_call ?_
  refine' enter_defC (binds := [("script", .ref sa)]) X T ?k6 ?k7 ?k8 ?k9 ?kB ?kN ?_ ?c2 ?c3 ?c4
  case k6 => k_is
  case k7 => k_is
  case k8 => ktr_room
  case k9 => rfl
  case kB => rfl
  case kN => decide +kernel
  case c2 => exact rfl
  case c3 => exact rfl
  case c4 => exact rfl
  intro L' h' tk1 cells F' N' Y'
  k_cells Y'
  try simp only [List.cons_append, List.nil_append] at N'
  try k_fold
  rename Obj.data _ = Data.cell (bindC _ _ _ (Str.ofString "traded")) => d6
  rename Obj.data _ = Data.cell (bindC _ _ _ (Str.ofString "given")) => d5
  rename Obj.data _ = Data.cell (bindC _ _ _ (Str.ofString "heard")) => d4
  rename Obj.data _ = Data.cell (bindC _ _ _ (Str.ofString "orders")) => d3
  rename Obj.data _ = Data.cell (bindC _ _ _ (Str.ofString "k")) => d2
  rename Obj.data _ = Data.cell (bindC _ _ _ (Str.ofString "script")) => d1
  refine wpAny_mono (law_body w dp un gd frs base s.heap mean mg mb B X T hd hu L' sa vs ns _ _ _ _ _ _ d1 _ _ _ _ _ d2 d3 d4 d5 d6 hpre hi hn ⟨_, _, _, _, _⟩ _ _ F' (newsSub N' (by kst_in)) ?hps) (fun f s₃ q => ?_) fun _ _ x => x
  case hps => passes_own
  obtain ⟨rfl, h4, k4, rfl, hk4⟩ := q
  show Q (.bool true) _
  exact hret (.bool true) _ _ hk4 rfl
end Wr50
end
section
set_option maxRecDepth 100000
set_option maxHeartbeats 4000000
namespace Wr50
open PySem PySem.W PySem.Calls PyProof.Rows
noncomputable abbrev hsC (x : Int) (t : Tok) : Code := .call (.builtin "int.__hash__") ⟨[.int x t], []⟩
noncomputable abbrev hsB (x : Int) (t : Tok) : Code := .builtin "int.__hash__" ⟨[.int x t], []⟩
theorem den1 (x : Int) (t : Tok) : denote treeTable (hsC x t) = .pure (.again (hsB x t)) := by kernel_rfl
theorem den2 (x : Int) (t : Tok) : denote treeTable (hsB x t) = Builtin.«int.__hash__» ⟨[.int x t], []⟩ := by kernel_rfl
theorem den3 (x : Nat) (hx : x < 1000000) (t : Tok) : Builtin.«int.__hash__» ⟨[.int (x : Int) t], []⟩ = .fresh fun u => .pure (.done (.ret (.int (x : Int) u))) := by
  have h : (x : Int).natAbs % (2 ^ 61 - 1 : Nat) = x := by
    have : (x : Int).natAbs = x := Int.natAbs_natCast x
    rw [this]; exact Nat.mod_eq_of_lt (by omega)
  show (do let h : Int := ((x : Int).natAbs % (2 ^ 61 - 1 : Nat) : Nat); let h := if (x : Int) < 0 then -h else h; retInt (if h == -1 then -2 else h) : Sem Fin) = _
  dsimp only
  rw [h, show (if (x : Int) < 0 then -((x : Nat) : Int) else ((x : Nat) : Int)) = (x : Int) from if_neg (by omega), if_neg (by simp only [beq_iff_eq]; omega)]
  rfl
theorem hash_seg {pr : Program} {w : World} {n₀ : Nat} {ann : Option Value} {b : List Stmt} {env : Env} {p q : Pos} (x : Nat) (hx : x < 1000000) (t : Tok) (s : Shared) (h : Option Value) (g : Bool) (l : List Value) (k : Result → Sem Fin) :
    segGo treeTable pr w n₀ ann 1 4 s ⟨.call (hsC x t) h g l k, .body b env, p, [topFrame q]⟩ = some ({ s with toks := s.toks + 1 }, ⟨k (.ok (.ret (.int (x : Int) s.toks))), .body b env, p, [topFrame q]⟩) := by
  have s1 : step (denote treeTable) pr w s ⟨.call (hsC x t) h g l k, .body b env, p, [topFrame q]⟩ = .go s ⟨.pure (.again (hsB x t)), hsC x t, p, [.ret k h g l (.body b env) p [], topFrame q]⟩ := by
    rw [← den1]; rfl
  have s2 : step (denote treeTable) pr w s ⟨.pure (.again (hsB x t)), hsC x t, p, [.ret k h g l (.body b env) p [], topFrame q]⟩ = .go s ⟨.fresh fun u => .pure (.done (.ret (.int (x : Int) u))), hsB x t, p, [.ret k h g l (.body b env) p (keptBy (hsC x t) (hsB x t) l []), topFrame q]⟩ := by
    rw [← den3 x hx t, ← den2]; exact step_again
  simp only [segGo]
  have o1 : stepOk n₀ ann ⟨.call (hsC x t) h g l k, .body b env, p, [topFrame q]⟩ = true := rfl
  have o2 : stepOk n₀ ann ⟨.pure (.again (hsB x t)), hsC x t, p, [.ret k h g l (.body b env) p [], topFrame q]⟩ = true := by kernel_rfl
  have e1 : endAt 1 ⟨.call (hsC x t) h g l k, .body b env, p, [topFrame q]⟩ = none := rfl
  have e2 : endAt 1 ⟨.pure (.again (hsB x t)), hsC x t, p, [.ret k h g l (.body b env) p [], topFrame q]⟩ = none := rfl
  rw [e1, o1]
  dsimp only
  rw [s1]
  dsimp only
  rw [e2, o2]
  dsimp only
  rw [s2]
  rfl
noncomputable def hashArg? : Code → Option Nat
  | .call (.builtin id) ⟨[.int (.ofNat x) _], []⟩ => if id == "int.__hash__" && Nat.blt x 1000000 then some x else none
  | _ => none
theorem hashArg_spec {c : Code} {x : Nat} (h : hashArg? c = some x) : ∃ t, c = hsC x t ∧ x < 1000000 := by
  unfold hashArg? at h
  split at h
  · rename_i id y t
    split at h
    · rename_i hc
      obtain ⟨h1, h2⟩ := Bool.and_eq_true_iff.mp hc
      have e1 := eq_of_beq h1
      subst e1
      simp only [Option.some.injEq] at h
      subst h
      exact ⟨t, rfl, Nat.le_of_ble_eq_true h2⟩
    · cases h
  · cases h
theorem segGo_add {tb : String → Option Builtin} {p : Program} {w : World} {n₀ : Nat} {ann : Option Value} {b : Nat} : ∀ {n m : Nat} {s s' : Shared} {t t' : Thread}, segGo tb p w n₀ ann b n s t = some (s', t') →
    segGo tb p w n₀ ann b (n + m) s t = segGo tb p w n₀ ann b m s' t'
  | 0, m, s, s', t, t', h => by
    obtain ⟨rfl, rfl⟩ : s = s' ∧ t = t' := by simpa [segGo] using h
    rw [Nat.zero_add]
  | n + 1, m, s, s', t, t', h => by
    rw [show n + 1 + m = n + m + 1 by omega]
    unfold segGo at h
    rw [segGo]
    cases he : endAt b t with
    | some f => rw [he] at h; cases h
    | none =>
      rw [he] at h
      cases hk : stepOk n₀ ann t with
      | false => rw [hk] at h; cases h
      | true =>
        rw [hk] at h
        cases hs : step (denote tb) p w s t with
        | halt o s₂ => rw [hs] at h; cases h
        | go s₂ t₂ => rw [hs] at h; exact segGo_add h
/-! a straight run of a tree that calls nothing: what it answers, where it leaves the state, and the number of its steps -/
section
variable {α β : Type} (st : Setting) (n₀ : Nat) (ann : Option Value)
noncomputable def evS : Sem α → Shared → Pos → Nat → Option (α × Shared × Pos × Nat)
  | .pure a, s, p, n => some (a, s, p, n)
  | .rule _ k, s, p, n => evS (k ()) s p (n + 1)
  | .at q k, s, _, n => evS (k ()) s q (n + 1)
  | .load a _ k, s, p, n => (s.heap.get? a).elim none fun o => evS (k o) s p (n + 1)
  | .update a _ f k, s, p, n => match (s.heap.get? a).isSome && (Nat.ble n₀ a || a == mainNs || a == cStatics || ann == some (.ref a)) with
    | true => evS (k ()) { s with heap := s.heap.update a f } p (n + 1)
    | false => none
  | .alloc o k, s, p, n => evS (k s.heap.objs.size) { s with heap := s.heap.push o } p (n + 1)
  | .loadIfAlive a k, s, p, n => evS (k (s.heap.get? a)) s p (n + 1)
  | .point _ k, s, p, n => evS (k ()) s p (n + 1)
  | .fresh k, s, p, n => evS (k s.toks) { s with toks := s.toks + 1 } p (n + 1)
  | .ask k, s, p, n => evS (k st) s p (n + 1)
  | .call c _ _ _ k, s, p, n => (hashArg? c).elim none fun x => evS (k (.ok (.ret (.int (x : Int) s.toks)))) { s with toks := s.toks + 1 } p (n + 4)
  | _, _, _, _ => none
theorem evS_wrap (K : α → Sem β) (H : Value → Sem β) (gd : Bool → Bool) (lv : List Value → List Value) : ∀ (m : Sem α) (s : Shared) (p : Pos) (n : Nat) (r : α × Shared × Pos × Nat), evS st n₀ ann m s p n = some r →
    evS st n₀ ann (m.wrap K H gd lv) s p n = evS st n₀ ann (K r.1) r.2.1 r.2.2.1 r.2.2.2 := by
  intro m
  induction m with
  | pure a => intro s p n r h; cases (show some (a, s, p, n) = some r from h); rfl
  | rule t k ih => intro s p n r h; exact ih () _ _ _ _ h
  | «at» q k ih => intro s p n r h; exact ih () _ _ _ _ h
  | load a q k ih =>
    intro s p n r h
    replace h : ((s.heap.get? a).elim none fun o => evS st n₀ ann (k o) s p (n + 1)) = some r := h
    show ((s.heap.get? a).elim none fun o => evS st n₀ ann ((k o).wrap K H gd lv) s p (n + 1)) = _
    cases e : s.heap.get? a with
    | none => rw [e] at h; cases h
    | some o => rw [e] at h; exact ih o _ _ _ _ h
  | update a q g k ih =>
    intro s p n r h
    replace h : (match (s.heap.get? a).isSome && (Nat.ble n₀ a || a == mainNs || a == cStatics || ann == some (.ref a)) with | true => evS st n₀ ann (k ()) { s with heap := s.heap.update a g } p (n + 1) | false => none) = some r := h
    show (match (s.heap.get? a).isSome && (Nat.ble n₀ a || a == mainNs || a == cStatics || ann == some (.ref a)) with | true => evS st n₀ ann ((k ()).wrap K H gd lv) { s with heap := s.heap.update a g } p (n + 1) | false => none) = _
    cases e : (s.heap.get? a).isSome && (Nat.ble n₀ a || a == mainNs || a == cStatics || ann == some (.ref a)) with
    | false => rw [e] at h; cases h
    | true => rw [e] at h; exact ih () _ _ _ _ h
  | alloc o k ih => intro s p n r h; exact ih _ _ _ _ _ h
  | loadIfAlive a k ih => intro s p n r h; exact ih _ _ _ _ _ h
  | point l k ih => intro s p n r h; exact ih () _ _ _ _ h
  | fresh k ih => intro s p n r h; exact ih _ _ _ _ _ h
  | ask k ih => intro s p n r h; exact ih _ _ _ _ _ h
  | call c h' g l k ih =>
    intro s p n r h
    replace h : ((hashArg? c).elim none fun x => evS st n₀ ann (k (.ok (.ret (.int (x : Int) s.toks)))) { s with toks := s.toks + 1 } p (n + 4)) = some r := h
    show ((hashArg? c).elim none fun x => evS st n₀ ann ((k (.ok (.ret (.int (x : Int) s.toks)))).wrap K H gd lv) { s with toks := s.toks + 1 } p (n + 4)) = _
    cases e : hashArg? c with
    | none => rw [e] at h; cases h
    | some x => rw [e] at h; exact ih _ _ _ _ _ h
  | _ => intro s p n r h; cases (show (none : Option (α × Shared × Pos × Nat)) = some r from h)
end
section
variable {α : Type} {pr : Program} {w : World} {n₀ : Nat} {ann : Option Value} {b : List Stmt} {env : Env} {q : Pos}
theorem evS_seg (K : α → Sem Fin) (H : Value → Sem Fin) (gd : Bool → Bool) (lv : List Value → List Value) : ∀ (m : Sem α) (s : Shared) (p : Pos) (n : Nat) (r : α × Shared × Pos × Nat), evS ⟨pr, w.params⟩ n₀ ann m s p n = some r →
    ∃ d, r.2.2.2 = n + d ∧ segGo treeTable pr w n₀ ann 1 d s ⟨m.wrap K H gd lv, .body b env, p, [topFrame q]⟩ = some (r.2.1, ⟨K r.1, .body b env, r.2.2.1, [topFrame q]⟩) := by
  intro m
  have key : ∀ (s s' : Shared) (p p' : Pos) (n : Nat) (m m' : Sem α) (r : α × Shared × Pos × Nat), (∃ d, r.2.2.2 = n + 1 + d ∧ segGo treeTable pr w n₀ ann 1 d s' ⟨m'.wrap K H gd lv, .body b env, p', [topFrame q]⟩ = some (r.2.1, ⟨K r.1, .body b env, r.2.2.1, [topFrame q]⟩)) →
      endAt 1 ⟨m.wrap K H gd lv, .body b env, p, [topFrame q]⟩ = none → stepOk n₀ ann ⟨m.wrap K H gd lv, .body b env, p, [topFrame q]⟩ = true →
      step (denote treeTable) pr w s ⟨m.wrap K H gd lv, .body b env, p, [topFrame q]⟩ = .go s' ⟨m'.wrap K H gd lv, .body b env, p', [topFrame q]⟩ →
      ∃ d, r.2.2.2 = n + d ∧ segGo treeTable pr w n₀ ann 1 d s ⟨m.wrap K H gd lv, .body b env, p, [topFrame q]⟩ = some (r.2.1, ⟨K r.1, .body b env, r.2.2.1, [topFrame q]⟩) := by
    rintro s s' p p' n m m' r ⟨d, e, h⟩ he hk hs
    refine ⟨d + 1, by omega, ?_⟩
    unfold segGo
    rw [he, hk, hs]
    exact h
  induction m with
  | pure a => intro s p n r h; cases (show some (a, s, p, n) = some r from h); exact ⟨0, rfl, rfl⟩
  | rule t k ih => intro s p n r h; exact key s s p p n _ _ r (ih () _ _ _ _ h) rfl rfl rfl
  | «at» q k ih => intro s p n r h; exact key s s p q n _ _ r (ih () _ _ _ _ h) rfl rfl rfl
  | load a q k ih =>
    intro s p n r h
    replace h : ((s.heap.get? a).elim none fun o => evS ⟨pr, w.params⟩ n₀ ann (k o) s p (n + 1)) = some r := h
    cases e : s.heap.get? a with
    | none => rw [e] at h; cases h
    | some o => rw [e] at h; exact key s s p p n _ _ r (ih o _ _ _ _ h) rfl rfl (by simp only [Sem.wrap, step, e])
  | update a q g k ih =>
    intro s p n r h
    replace h : (match (s.heap.get? a).isSome && (Nat.ble n₀ a || a == mainNs || a == cStatics || ann == some (.ref a)) with | true => evS ⟨pr, w.params⟩ n₀ ann (k ()) { s with heap := s.heap.update a g } p (n + 1) | false => none) = some r := h
    cases e : (s.heap.get? a).isSome && (Nat.ble n₀ a || a == mainNs || a == cStatics || ann == some (.ref a)) with
    | false => rw [e] at h; cases h
    | true =>
      rw [e] at h
      obtain ⟨e1, e2⟩ := Bool.and_eq_true_iff.mp e
      refine key s _ p p n _ _ r (ih () _ _ _ _ h) rfl ?_ (by simp only [Sem.wrap, step, e1, if_true])
      simp only [Sem.wrap, stepOk]
      rw [e2]; rfl
  | alloc o k ih => intro s p n r h; exact key s _ p p n _ _ r (ih _ _ _ _ _ h) rfl rfl rfl
  | loadIfAlive a k ih => intro s p n r h; exact key s s p p n _ _ r (ih _ _ _ _ _ h) rfl rfl rfl
  | point l k ih => intro s p n r h; exact key s s p p n _ _ r (ih () _ _ _ _ h) rfl rfl rfl
  | fresh k ih => intro s p n r h; exact key s _ p p n _ _ r (ih _ _ _ _ _ h) rfl rfl rfl
  | ask k ih => intro s p n r h; exact key s s p p n _ _ r (ih _ _ _ _ _ h) rfl rfl rfl
  | call c h' g l k ih =>
    intro s p n r h
    replace h : ((hashArg? c).elim none fun x => evS ⟨pr, w.params⟩ n₀ ann (k (.ok (.ret (.int (x : Int) s.toks)))) { s with toks := s.toks + 1 } p (n + 4)) = some r := h
    cases e : hashArg? c with
    | none => rw [e] at h; cases h
    | some x =>
      rw [e] at h
      obtain ⟨t, rfl, hx⟩ := hashArg_spec e
      obtain ⟨d, e1, e2⟩ := ih _ _ _ _ _ h
      refine ⟨4 + d, by omega, ?_⟩
      exact (segGo_add (hash_seg x hx t s h' (gd g) (lv l) fun r => (k r).wrap K H gd lv)).trans e2
  | _ => intro s p n r h; cases (show (none : Option (α × Shared × Pos × Nat)) = some r from h)
end
end Wr50
end
section
set_option maxRecDepth 100000
set_option maxHeartbeats 4000000
namespace Wr50
open PySem PySem.W PySem.Calls PyProof.Rows
noncomputable def subE (j : Nat) : Array DictEntry := ((b3es.toList.drop (17 * j)).take 17).toArray
noncomputable def life0 : Life := (PySem.Life.mk [] [] [] 0 [] [] false #[] [] 0 false false false 0 [2000, 10, 10] false 0 true [] [] 0 false)
noncomputable def drawn0 : Drawn := (PySem.Drawn.mk 0 0 0 0)
noncomputable abbrev PW : Program := PySem.Challenge.pw_wr0050_01
noncomputable def envT : Env := { scope := PW.main.scope, locals := mainNs, globals := mainNs, cells := [], code := .ref 13, frame := some 14 }
noncomputable abbrev codeT : Code := .body (behindTheImports PW) envT
noncomputable abbrev posT : Pos := ⟨0,0,0,0⟩
noncomputable def o11_0 (P : Params) : Obj :=
  (PySem.Obj.mk (PySem.Value.type "tuple") none (PySem.Data.seq #[] 0) #[])
noncomputable def o12_0 (P : Params) : Obj :=
  (PySem.Obj.mk PySem.Value.none none (PySem.Data.fields #[]) #[])
noncomputable def o13_0 (P : Params) : Obj :=
  (PySem.Obj.mk (PySem.Value.type "code") none (PySem.Data.fields #[(PySem.Value.str (PySem.Str.ofString "<module>") 182), (PySem.Value.str (PySem.Str.ofString "<module>") 183), (PySem.Value.str (PySem.Str.ofString "/claim/cut.py") 184), (PySem.Value.int 1 0), (PySem.Value.int 0 0), (PySem.Value.int 0 0), (PySem.Value.int 0 0), (PySem.Value.int 0 0), (PySem.Value.ref 11), (PySem.Value.bool false), (PySem.Value.int 181 0), (PySem.Value.ref 12), PySem.Value.none, PySem.Value.none, PySem.Value.none, PySem.Value.none, (PySem.Value.int 185 0), (PySem.Value.int 1 0), (PySem.Value.str (PySem.Str.ofString "/claim/cut.py") 186)]) #[])
noncomputable def o14_0 (P : Params) : Obj :=
  (PySem.Obj.mk (PySem.Value.type "frame") none PySem.Data.plain #[(some (PySem.Value.ref 13)), (some (PySem.Value.ref 3)), (some (PySem.Value.ref 3)), none, (some (PySem.Value.str (PySem.Str.ofString "__main__") 164)), none, (some (PySem.Value.ref 0))])
noncomputable def o3_1 (P : Params) : Obj :=
  (PySem.Obj.mk (PySem.Value.type "dict") none (PySem.Data.dict #[(PySem.DictEntry.mk (PySem.PyData.keyHash P (PySem.Str.ofString "__name__")) (PySem.Value.str (PySem.Str.ofString "__name__") 165) (PySem.Value.str (PySem.Str.ofString "cpy313.stringprep") 187)), (PySem.DictEntry.mk (PySem.PyData.keyHash P (PySem.Str.ofString "__doc__")) (PySem.Value.str (PySem.Str.ofString "__doc__") 166) PySem.Value.none), (PySem.DictEntry.mk (PySem.PyData.keyHash P (PySem.Str.ofString "__package__")) (PySem.Value.str (PySem.Str.ofString "__package__") 167) PySem.Value.none), (PySem.DictEntry.mk (PySem.PyData.keyHash P (PySem.Str.ofString "__loader__")) (PySem.Value.str (PySem.Str.ofString "__loader__") 168) (PySem.Value.builtin "__main__.__loader__#opaque")), (PySem.DictEntry.mk (PySem.PyData.keyHash P (PySem.Str.ofString "__spec__")) (PySem.Value.str (PySem.Str.ofString "__spec__") 169) PySem.Value.none), (PySem.DictEntry.mk (PySem.PyData.keyHash P (PySem.Str.ofString "__annotations__")) (PySem.Value.str (PySem.Str.ofString "__annotations__") 170) (PySem.Value.ref 6)), (PySem.DictEntry.mk (PySem.PyData.keyHash P (PySem.Str.ofString "__builtins__")) (PySem.Value.str (PySem.Str.ofString "__builtins__") 171) (PySem.Value.ref 4)), (PySem.DictEntry.mk (PySem.PyData.keyHash P (PySem.Str.ofString "__file__")) (PySem.Value.str (PySem.Str.ofString "__file__") 173) (PySem.Value.str (PySem.Str.ofString "/claim/cut.py") 172)), (PySem.DictEntry.mk (PySem.PyData.keyHash P (PySem.Str.ofString "__cached__")) (PySem.Value.str (PySem.Str.ofString "__cached__") 174) PySem.Value.none)] 9) #[])
noncomputable def o3_2 (P : Params) : Obj :=
  (PySem.Obj.mk (PySem.Value.type "dict") none (PySem.Data.dict #[(PySem.DictEntry.mk (PySem.PyData.keyHash P (PySem.Str.ofString "__name__")) (PySem.Value.str (PySem.Str.ofString "__name__") 165) (PySem.Value.str (PySem.Str.ofString "cpy313.stringprep") 187)), (PySem.DictEntry.mk (PySem.PyData.keyHash P (PySem.Str.ofString "__doc__")) (PySem.Value.str (PySem.Str.ofString "__doc__") 166) PySem.Value.none), (PySem.DictEntry.mk (PySem.PyData.keyHash P (PySem.Str.ofString "__package__")) (PySem.Value.str (PySem.Str.ofString "__package__") 167) PySem.Value.none), (PySem.DictEntry.mk (PySem.PyData.keyHash P (PySem.Str.ofString "__loader__")) (PySem.Value.str (PySem.Str.ofString "__loader__") 168) (PySem.Value.builtin "__main__.__loader__#opaque")), (PySem.DictEntry.mk (PySem.PyData.keyHash P (PySem.Str.ofString "__spec__")) (PySem.Value.str (PySem.Str.ofString "__spec__") 169) PySem.Value.none), (PySem.DictEntry.mk (PySem.PyData.keyHash P (PySem.Str.ofString "__annotations__")) (PySem.Value.str (PySem.Str.ofString "__annotations__") 170) (PySem.Value.ref 6)), (PySem.DictEntry.mk (PySem.PyData.keyHash P (PySem.Str.ofString "__builtins__")) (PySem.Value.str (PySem.Str.ofString "__builtins__") 171) (PySem.Value.ref 4)), (PySem.DictEntry.mk (PySem.PyData.keyHash P (PySem.Str.ofString "__file__")) (PySem.Value.str (PySem.Str.ofString "__file__") 173) (PySem.Value.str (PySem.Str.ofString "/claim/cut.py") 172)), (PySem.DictEntry.mk (PySem.PyData.keyHash P (PySem.Str.ofString "__cached__")) (PySem.Value.str (PySem.Str.ofString "__cached__") 174) PySem.Value.none), (PySem.DictEntry.mk (PySem.PyData.keyHash P (PySem.Str.ofString "b1_set")) (PySem.Value.str (PySem.Str.ofString "b1_set") 248) (PySem.Value.ref 22))] 10) #[])
noncomputable def o15_2 (P : Params) : Obj :=
  (PySem.Obj.mk (PySem.Value.type "list") none (PySem.Data.seq #[(PySem.Value.int 173 189), (PySem.Value.int 847 190), (PySem.Value.int 6150 191), (PySem.Value.int 6155 192), (PySem.Value.int 6156 193), (PySem.Value.int 6157 194), (PySem.Value.int 8203 195), (PySem.Value.int 8204 196), (PySem.Value.int 8205 197), (PySem.Value.int 8288 198), (PySem.Value.int 65279 199)] 0) #[])
noncomputable def o16_2 (P : Params) : Obj :=
  (PySem.Obj.mk (PySem.Value.type "range") none (PySem.Data.fields #[(PySem.Value.int 65024 200), (PySem.Value.int 65040 201), (PySem.Value.int 1 202)]) #[])
noncomputable def o17_2 (P : Params) : Obj :=
  (PySem.Obj.mk (PySem.Value.type "list") none (PySem.Data.seq #[(PySem.Value.int 65024 205), (PySem.Value.int 65025 206), (PySem.Value.int 65026 207), (PySem.Value.int 65027 208), (PySem.Value.int 65028 209), (PySem.Value.int 65029 210), (PySem.Value.int 65030 211), (PySem.Value.int 65031 212), (PySem.Value.int 65032 213), (PySem.Value.int 65033 214), (PySem.Value.int 65034 215), (PySem.Value.int 65035 216), (PySem.Value.int 65036 217), (PySem.Value.int 65037 218), (PySem.Value.int 65038 219), (PySem.Value.int 65039 220)] 18) #[])
noncomputable def o18_2 (P : Params) : Obj :=
  (PySem.Obj.mk (PySem.Value.type "range_iterator") none (PySem.Data.fields #[(PySem.Value.int 65040 0), (PySem.Value.int 0 0), (PySem.Value.int 1 0)]) #[])
noncomputable def o19_2 (P : Params) : Obj :=
  (PySem.Obj.mk (PySem.Value.type "tuple") none (PySem.Data.seq #[] 0) #[])
noncomputable def o20_2 (P : Params) : Obj :=
  (PySem.Obj.mk (PySem.Value.type "StopIteration") none (PySem.Data.fields #[(PySem.Value.ref 19), PySem.Value.none, PySem.Value.none, PySem.Value.none, (PySem.Value.bool false), PySem.Value.none]) #[])
noncomputable def o21_2 (P : Params) : Obj :=
  (PySem.Obj.mk (PySem.Value.type "list") none (PySem.Data.seq #[(PySem.Value.int 173 189), (PySem.Value.int 847 190), (PySem.Value.int 6150 191), (PySem.Value.int 6155 192), (PySem.Value.int 6156 193), (PySem.Value.int 6157 194), (PySem.Value.int 8203 195), (PySem.Value.int 8204 196), (PySem.Value.int 8205 197), (PySem.Value.int 8288 198), (PySem.Value.int 65279 199), (PySem.Value.int 65024 205), (PySem.Value.int 65025 206), (PySem.Value.int 65026 207), (PySem.Value.int 65027 208), (PySem.Value.int 65028 209), (PySem.Value.int 65029 210), (PySem.Value.int 65030 211), (PySem.Value.int 65031 212), (PySem.Value.int 65032 213), (PySem.Value.int 65033 214), (PySem.Value.int 65034 215), (PySem.Value.int 65035 216), (PySem.Value.int 65036 217), (PySem.Value.int 65037 218), (PySem.Value.int 65038 219), (PySem.Value.int 65039 220)] 0) #[])
noncomputable def o22_2 (P : Params) : Obj :=
  (PySem.Obj.mk (PySem.Value.type "set") none (PySem.Data.set #[(65024, (PySem.Value.int 65024 205)), (65025, (PySem.Value.int 65025 206)), (65026, (PySem.Value.int 65026 207)), (65027, (PySem.Value.int 65027 208)), (65028, (PySem.Value.int 65028 209)), (65029, (PySem.Value.int 65029 210)), (6150, (PySem.Value.int 6150 191)), (65030, (PySem.Value.int 65030 211)), (65031, (PySem.Value.int 65031 212)), (65032, (PySem.Value.int 65032 213)), (65033, (PySem.Value.int 65033 214)), (6155, (PySem.Value.int 6155 192)), (6156, (PySem.Value.int 6156 193)), (6157, (PySem.Value.int 6157 194)), (8203, (PySem.Value.int 8203 195)), (8204, (PySem.Value.int 8204 196)), (8205, (PySem.Value.int 8205 197)), (65034, (PySem.Value.int 65034 215)), (65035, (PySem.Value.int 65035 216)), (65036, (PySem.Value.int 65036 217)), (65037, (PySem.Value.int 65037 218)), (65038, (PySem.Value.int 65038 219)), (65039, (PySem.Value.int 65039 220)), (173, (PySem.Value.int 173 189)), (847, (PySem.Value.int 847 190)), (8288, (PySem.Value.int 8288 198)), (65279, (PySem.Value.int 65279 199))] 29 (PySem.SetTable.mk 127 #[0, 1, 2, 3, 4, 5, 6, 7, 8, 9, 10, 11, 12, 13, 14, 15, 16, 17, 18, 19, 20, 21, 22, 45, 79, 96, 127] #[] 0 (!(PySem.Params.followText P "set-order")) 2 true)) #[])
noncomputable def o23_2 (P : Params) : Obj :=
  (PySem.Obj.mk (PySem.Value.type "list_iterator") none (PySem.Data.fields #[PySem.Value.none, (PySem.Value.int 27 0)]) #[])
noncomputable def o24_2 (P : Params) : Obj :=
  (PySem.Obj.mk (PySem.Value.type "tuple") none (PySem.Data.seq #[] 0) #[])
noncomputable def o25_2 (P : Params) : Obj :=
  (PySem.Obj.mk (PySem.Value.type "StopIteration") none (PySem.Data.fields #[(PySem.Value.ref 24), PySem.Value.none, PySem.Value.none, PySem.Value.none, (PySem.Value.bool false), PySem.Value.none]) #[])
noncomputable def o3_3 (P : Params) : Obj :=
  (PySem.Obj.mk (PySem.Value.type "dict") none (PySem.Data.dict #[(PySem.DictEntry.mk (PySem.PyData.keyHash P (PySem.Str.ofString "__name__")) (PySem.Value.str (PySem.Str.ofString "__name__") 165) (PySem.Value.str (PySem.Str.ofString "cpy313.stringprep") 187)), (PySem.DictEntry.mk (PySem.PyData.keyHash P (PySem.Str.ofString "__doc__")) (PySem.Value.str (PySem.Str.ofString "__doc__") 166) PySem.Value.none), (PySem.DictEntry.mk (PySem.PyData.keyHash P (PySem.Str.ofString "__package__")) (PySem.Value.str (PySem.Str.ofString "__package__") 167) PySem.Value.none), (PySem.DictEntry.mk (PySem.PyData.keyHash P (PySem.Str.ofString "__loader__")) (PySem.Value.str (PySem.Str.ofString "__loader__") 168) (PySem.Value.builtin "__main__.__loader__#opaque")), (PySem.DictEntry.mk (PySem.PyData.keyHash P (PySem.Str.ofString "__spec__")) (PySem.Value.str (PySem.Str.ofString "__spec__") 169) PySem.Value.none), (PySem.DictEntry.mk (PySem.PyData.keyHash P (PySem.Str.ofString "__annotations__")) (PySem.Value.str (PySem.Str.ofString "__annotations__") 170) (PySem.Value.ref 6)), (PySem.DictEntry.mk (PySem.PyData.keyHash P (PySem.Str.ofString "__builtins__")) (PySem.Value.str (PySem.Str.ofString "__builtins__") 171) (PySem.Value.ref 4)), (PySem.DictEntry.mk (PySem.PyData.keyHash P (PySem.Str.ofString "__file__")) (PySem.Value.str (PySem.Str.ofString "__file__") 173) (PySem.Value.str (PySem.Str.ofString "/claim/cut.py") 172)), (PySem.DictEntry.mk (PySem.PyData.keyHash P (PySem.Str.ofString "__cached__")) (PySem.Value.str (PySem.Str.ofString "__cached__") 174) PySem.Value.none), (PySem.DictEntry.mk (PySem.PyData.keyHash P (PySem.Str.ofString "b1_set")) (PySem.Value.str (PySem.Str.ofString "b1_set") 248) (PySem.Value.ref 22)), (PySem.DictEntry.mk (PySem.PyData.keyHash P (PySem.Str.ofString "in_table_b1")) (PySem.Value.str (PySem.Str.ofString "in_table_b1") 255) (PySem.Value.ref 32))] 11) #[])
noncomputable def o12_3 (P : Params) : Obj :=
  (PySem.Obj.mk PySem.Value.none none (PySem.Data.fields #[(PySem.Value.int 3 0), (PySem.Value.int 0 0), (PySem.Value.ref 31)]) #[])
noncomputable def o26_3 (P : Params) : Obj :=
  (PySem.Obj.mk (PySem.Value.type "tuple") none (PySem.Data.seq #[] 0) #[])
noncomputable def o27_3 (P : Params) : Obj :=
  (PySem.Obj.mk PySem.Value.none none (PySem.Data.fields #[]) #[])
noncomputable def o28_3 (P : Params) : Obj :=
  (PySem.Obj.mk (PySem.Value.type "tuple") none (PySem.Data.seq #[(PySem.Value.str (PySem.Str.ofString "code") 252)] 0) #[])
noncomputable def o29_3 (P : Params) : Obj :=
  (PySem.Obj.mk (PySem.Value.type "tuple") none (PySem.Data.seq #[] 0) #[])
noncomputable def o30_3 (P : Params) : Obj :=
  (PySem.Obj.mk PySem.Value.none none (PySem.Data.func (PySem.FuncData.mk (PySem.Str.ofString "in_table_b1") (PySem.Str.ofString "in_table_b1") p2.1 (PySem.FuncBody.stmts b2.1) s2.1 0 [] PySem.Value.none PySem.Value.none PySem.Value.none PySem.Value.none none PySem.Value.none PySem.Value.none 0)) #[])
noncomputable def o31_3 (P : Params) : Obj :=
  (PySem.Obj.mk (PySem.Value.type "code") none (PySem.Data.fields #[(PySem.Value.str (PySem.Str.ofString "in_table_b1") 249), (PySem.Value.str (PySem.Str.ofString "in_table_b1") 250), (PySem.Value.str (PySem.Str.ofString "/claim/cut.py") 251), (PySem.Value.int 3 0), (PySem.Value.int 1 0), (PySem.Value.int 0 0), (PySem.Value.int 0 0), (PySem.Value.int 3 0), (PySem.Value.ref 26), (PySem.Value.bool true), (PySem.Value.int 181 0), (PySem.Value.ref 27), PySem.Value.none, (PySem.Value.ref 28), (PySem.Value.ref 29), (PySem.Value.ref 30), (PySem.Value.int 253 0), (PySem.Value.int 3 0), (PySem.Value.str (PySem.Str.ofString "/claim/cut.py") 254)]) #[])
noncomputable def o32_3 (P : Params) : Obj :=
  (PySem.Obj.mk (PySem.Value.type "function") none (PySem.Data.func (PySem.FuncData.mk (PySem.Str.ofString "in_table_b1") (PySem.Str.ofString "in_table_b1") p2.1 (PySem.FuncBody.stmts b2.1) s2.1 3 [] PySem.Value.none PySem.Value.none PySem.Value.none (PySem.Value.str (PySem.Str.ofString "cpy313.stringprep") 187) none (PySem.Value.ref 31) PySem.Value.none 0)) #[])
noncomputable def o3_4 (P : Params) : Obj :=
  (PySem.Obj.mk (PySem.Value.type "dict") none (PySem.Data.dict #[(PySem.DictEntry.mk (PySem.PyData.keyHash P (PySem.Str.ofString "__name__")) (PySem.Value.str (PySem.Str.ofString "__name__") 165) (PySem.Value.str (PySem.Str.ofString "cpy313.stringprep") 187)), (PySem.DictEntry.mk (PySem.PyData.keyHash P (PySem.Str.ofString "__doc__")) (PySem.Value.str (PySem.Str.ofString "__doc__") 166) PySem.Value.none), (PySem.DictEntry.mk (PySem.PyData.keyHash P (PySem.Str.ofString "__package__")) (PySem.Value.str (PySem.Str.ofString "__package__") 167) PySem.Value.none), (PySem.DictEntry.mk (PySem.PyData.keyHash P (PySem.Str.ofString "__loader__")) (PySem.Value.str (PySem.Str.ofString "__loader__") 168) (PySem.Value.builtin "__main__.__loader__#opaque")), (PySem.DictEntry.mk (PySem.PyData.keyHash P (PySem.Str.ofString "__spec__")) (PySem.Value.str (PySem.Str.ofString "__spec__") 169) PySem.Value.none), (PySem.DictEntry.mk (PySem.PyData.keyHash P (PySem.Str.ofString "__annotations__")) (PySem.Value.str (PySem.Str.ofString "__annotations__") 170) (PySem.Value.ref 6)), (PySem.DictEntry.mk (PySem.PyData.keyHash P (PySem.Str.ofString "__builtins__")) (PySem.Value.str (PySem.Str.ofString "__builtins__") 171) (PySem.Value.ref 4)), (PySem.DictEntry.mk (PySem.PyData.keyHash P (PySem.Str.ofString "__file__")) (PySem.Value.str (PySem.Str.ofString "__file__") 173) (PySem.Value.str (PySem.Str.ofString "/claim/cut.py") 172)), (PySem.DictEntry.mk (PySem.PyData.keyHash P (PySem.Str.ofString "__cached__")) (PySem.Value.str (PySem.Str.ofString "__cached__") 174) PySem.Value.none), (PySem.DictEntry.mk (PySem.PyData.keyHash P (PySem.Str.ofString "b1_set")) (PySem.Value.str (PySem.Str.ofString "b1_set") 248) (PySem.Value.ref 22)), (PySem.DictEntry.mk (PySem.PyData.keyHash P (PySem.Str.ofString "in_table_b1")) (PySem.Value.str (PySem.Str.ofString "in_table_b1") 255) (PySem.Value.ref 32)), (PySem.DictEntry.mk (PySem.PyData.keyHash P (PySem.Str.ofString "b3_exceptions")) (PySem.Value.str (PySem.Str.ofString "b3_exceptions") 2206) (PySem.Value.ref 33))] 12) #[])
noncomputable def o33_4 (P : Params) : Obj :=
  ⟨(PySem.Value.type "dict"), none, PySem.Data.dict b3es 650, #[]⟩
noncomputable def o34_4 (P : Params) : Obj :=
  ⟨(PySem.Value.type "dict"), none, PySem.Data.dict (subE 1) 17, #[]⟩
noncomputable def o35_4 (P : Params) : Obj :=
  ⟨(PySem.Value.type "dict"), none, PySem.Data.dict (subE 2) 17, #[]⟩
noncomputable def o36_4 (P : Params) : Obj :=
  ⟨(PySem.Value.type "dict"), none, PySem.Data.dict (subE 3) 17, #[]⟩
noncomputable def o37_4 (P : Params) : Obj :=
  ⟨(PySem.Value.type "dict"), none, PySem.Data.dict (subE 4) 17, #[]⟩
noncomputable def o38_4 (P : Params) : Obj :=
  ⟨(PySem.Value.type "dict"), none, PySem.Data.dict (subE 5) 17, #[]⟩
noncomputable def o39_4 (P : Params) : Obj :=
  ⟨(PySem.Value.type "dict"), none, PySem.Data.dict (subE 6) 17, #[]⟩
noncomputable def o40_4 (P : Params) : Obj :=
  ⟨(PySem.Value.type "dict"), none, PySem.Data.dict (subE 7) 17, #[]⟩
noncomputable def o41_4 (P : Params) : Obj :=
  ⟨(PySem.Value.type "dict"), none, PySem.Data.dict (subE 8) 17, #[]⟩
noncomputable def o42_4 (P : Params) : Obj :=
  ⟨(PySem.Value.type "dict"), none, PySem.Data.dict (subE 9) 17, #[]⟩
noncomputable def o43_4 (P : Params) : Obj :=
  ⟨(PySem.Value.type "dict"), none, PySem.Data.dict (subE 10) 17, #[]⟩
noncomputable def o44_4 (P : Params) : Obj :=
  ⟨(PySem.Value.type "dict"), none, PySem.Data.dict (subE 11) 17, #[]⟩
noncomputable def o45_4 (P : Params) : Obj :=
  ⟨(PySem.Value.type "dict"), none, PySem.Data.dict (subE 12) 17, #[]⟩
noncomputable def o46_4 (P : Params) : Obj :=
  ⟨(PySem.Value.type "dict"), none, PySem.Data.dict (subE 13) 17, #[]⟩
noncomputable def o47_4 (P : Params) : Obj :=
  ⟨(PySem.Value.type "dict"), none, PySem.Data.dict (subE 14) 17, #[]⟩
noncomputable def o48_4 (P : Params) : Obj :=
  ⟨(PySem.Value.type "dict"), none, PySem.Data.dict (subE 15) 17, #[]⟩
noncomputable def o49_4 (P : Params) : Obj :=
  ⟨(PySem.Value.type "dict"), none, PySem.Data.dict (subE 16) 17, #[]⟩
noncomputable def o50_4 (P : Params) : Obj :=
  ⟨(PySem.Value.type "dict"), none, PySem.Data.dict (subE 17) 17, #[]⟩
noncomputable def o51_4 (P : Params) : Obj :=
  ⟨(PySem.Value.type "dict"), none, PySem.Data.dict (subE 18) 17, #[]⟩
noncomputable def o52_4 (P : Params) : Obj :=
  ⟨(PySem.Value.type "dict"), none, PySem.Data.dict (subE 19) 17, #[]⟩
noncomputable def o53_4 (P : Params) : Obj :=
  ⟨(PySem.Value.type "dict"), none, PySem.Data.dict (subE 20) 17, #[]⟩
noncomputable def o54_4 (P : Params) : Obj :=
  ⟨(PySem.Value.type "dict"), none, PySem.Data.dict (subE 21) 17, #[]⟩
noncomputable def o55_4 (P : Params) : Obj :=
  ⟨(PySem.Value.type "dict"), none, PySem.Data.dict (subE 22) 17, #[]⟩
noncomputable def o56_4 (P : Params) : Obj :=
  ⟨(PySem.Value.type "dict"), none, PySem.Data.dict (subE 23) 17, #[]⟩
noncomputable def o57_4 (P : Params) : Obj :=
  ⟨(PySem.Value.type "dict"), none, PySem.Data.dict (subE 24) 17, #[]⟩
noncomputable def o58_4 (P : Params) : Obj :=
  ⟨(PySem.Value.type "dict"), none, PySem.Data.dict (subE 25) 17, #[]⟩
noncomputable def o59_4 (P : Params) : Obj :=
  ⟨(PySem.Value.type "dict"), none, PySem.Data.dict (subE 26) 17, #[]⟩
noncomputable def o60_4 (P : Params) : Obj :=
  ⟨(PySem.Value.type "dict"), none, PySem.Data.dict (subE 27) 17, #[]⟩
noncomputable def o61_4 (P : Params) : Obj :=
  ⟨(PySem.Value.type "dict"), none, PySem.Data.dict (subE 28) 17, #[]⟩
noncomputable def o62_4 (P : Params) : Obj :=
  ⟨(PySem.Value.type "dict"), none, PySem.Data.dict (subE 29) 17, #[]⟩
noncomputable def o63_4 (P : Params) : Obj :=
  ⟨(PySem.Value.type "dict"), none, PySem.Data.dict (subE 30) 17, #[]⟩
noncomputable def o64_4 (P : Params) : Obj :=
  ⟨(PySem.Value.type "dict"), none, PySem.Data.dict (subE 31) 17, #[]⟩
noncomputable def o65_4 (P : Params) : Obj :=
  ⟨(PySem.Value.type "dict"), none, PySem.Data.dict (subE 32) 17, #[]⟩
noncomputable def o66_4 (P : Params) : Obj :=
  ⟨(PySem.Value.type "dict"), none, PySem.Data.dict (subE 33) 17, #[]⟩
noncomputable def o67_4 (P : Params) : Obj :=
  ⟨(PySem.Value.type "dict"), none, PySem.Data.dict (subE 34) 17, #[]⟩
noncomputable def o68_4 (P : Params) : Obj :=
  ⟨(PySem.Value.type "dict"), none, PySem.Data.dict (subE 35) 17, #[]⟩
noncomputable def o69_4 (P : Params) : Obj :=
  ⟨(PySem.Value.type "dict"), none, PySem.Data.dict (subE 36) 17, #[]⟩
noncomputable def o70_4 (P : Params) : Obj :=
  ⟨(PySem.Value.type "dict"), none, PySem.Data.dict (subE 37) 17, #[]⟩
noncomputable def o71_4 (P : Params) : Obj :=
  ⟨(PySem.Value.type "dict"), none, PySem.Data.dict (subE 38) 4, #[]⟩
noncomputable def o3_5 (P : Params) : Obj :=
  (PySem.Obj.mk (PySem.Value.type "dict") none (PySem.Data.dict #[(PySem.DictEntry.mk (PySem.PyData.keyHash P (PySem.Str.ofString "__name__")) (PySem.Value.str (PySem.Str.ofString "__name__") 165) (PySem.Value.str (PySem.Str.ofString "cpy313.stringprep") 187)), (PySem.DictEntry.mk (PySem.PyData.keyHash P (PySem.Str.ofString "__doc__")) (PySem.Value.str (PySem.Str.ofString "__doc__") 166) PySem.Value.none), (PySem.DictEntry.mk (PySem.PyData.keyHash P (PySem.Str.ofString "__package__")) (PySem.Value.str (PySem.Str.ofString "__package__") 167) PySem.Value.none), (PySem.DictEntry.mk (PySem.PyData.keyHash P (PySem.Str.ofString "__loader__")) (PySem.Value.str (PySem.Str.ofString "__loader__") 168) (PySem.Value.builtin "__main__.__loader__#opaque")), (PySem.DictEntry.mk (PySem.PyData.keyHash P (PySem.Str.ofString "__spec__")) (PySem.Value.str (PySem.Str.ofString "__spec__") 169) PySem.Value.none), (PySem.DictEntry.mk (PySem.PyData.keyHash P (PySem.Str.ofString "__annotations__")) (PySem.Value.str (PySem.Str.ofString "__annotations__") 170) (PySem.Value.ref 6)), (PySem.DictEntry.mk (PySem.PyData.keyHash P (PySem.Str.ofString "__builtins__")) (PySem.Value.str (PySem.Str.ofString "__builtins__") 171) (PySem.Value.ref 4)), (PySem.DictEntry.mk (PySem.PyData.keyHash P (PySem.Str.ofString "__file__")) (PySem.Value.str (PySem.Str.ofString "__file__") 173) (PySem.Value.str (PySem.Str.ofString "/claim/cut.py") 172)), (PySem.DictEntry.mk (PySem.PyData.keyHash P (PySem.Str.ofString "__cached__")) (PySem.Value.str (PySem.Str.ofString "__cached__") 174) PySem.Value.none), (PySem.DictEntry.mk (PySem.PyData.keyHash P (PySem.Str.ofString "b1_set")) (PySem.Value.str (PySem.Str.ofString "b1_set") 248) (PySem.Value.ref 22)), (PySem.DictEntry.mk (PySem.PyData.keyHash P (PySem.Str.ofString "in_table_b1")) (PySem.Value.str (PySem.Str.ofString "in_table_b1") 255) (PySem.Value.ref 32)), (PySem.DictEntry.mk (PySem.PyData.keyHash P (PySem.Str.ofString "b3_exceptions")) (PySem.Value.str (PySem.Str.ofString "b3_exceptions") 2206) (PySem.Value.ref 33)), (PySem.DictEntry.mk (PySem.PyData.keyHash P (PySem.Str.ofString "map_table_b3")) (PySem.Value.str (PySem.Str.ofString "map_table_b3") 2214) (PySem.Value.ref 78))] 13) #[])
noncomputable def o12_5 (P : Params) : Obj :=
  (PySem.Obj.mk PySem.Value.none none (PySem.Data.fields #[(PySem.Value.int 3 0), (PySem.Value.int 0 0), (PySem.Value.ref 31), (PySem.Value.int 6 0), (PySem.Value.int 0 0), (PySem.Value.ref 77)]) #[])
noncomputable def o72_5 (P : Params) : Obj :=
  (PySem.Obj.mk (PySem.Value.type "tuple") none (PySem.Data.seq #[] 0) #[])
noncomputable def o73_5 (P : Params) : Obj :=
  (PySem.Obj.mk PySem.Value.none none (PySem.Data.fields #[]) #[])
noncomputable def o74_5 (P : Params) : Obj :=
  (PySem.Obj.mk (PySem.Value.type "tuple") none (PySem.Data.seq #[(PySem.Value.str (PySem.Str.ofString "code") 2210), (PySem.Value.str (PySem.Str.ofString "r") 2211)] 0) #[])
noncomputable def o75_5 (P : Params) : Obj :=
  (PySem.Obj.mk (PySem.Value.type "tuple") none (PySem.Data.seq #[] 0) #[])
noncomputable def o76_5 (P : Params) : Obj :=
  (PySem.Obj.mk PySem.Value.none none (PySem.Data.func (PySem.FuncData.mk (PySem.Str.ofString "map_table_b3") (PySem.Str.ofString "map_table_b3") p4.1 (PySem.FuncBody.stmts b4.1) s4.1 0 [] PySem.Value.none PySem.Value.none PySem.Value.none PySem.Value.none none PySem.Value.none PySem.Value.none 0)) #[])
noncomputable def o77_5 (P : Params) : Obj :=
  (PySem.Obj.mk (PySem.Value.type "code") none (PySem.Data.fields #[(PySem.Value.str (PySem.Str.ofString "map_table_b3") 2207), (PySem.Value.str (PySem.Str.ofString "map_table_b3") 2208), (PySem.Value.str (PySem.Str.ofString "/claim/cut.py") 2209), (PySem.Value.int 6 0), (PySem.Value.int 1 0), (PySem.Value.int 0 0), (PySem.Value.int 0 0), (PySem.Value.int 3 0), (PySem.Value.ref 72), (PySem.Value.bool true), (PySem.Value.int 181 0), (PySem.Value.ref 73), PySem.Value.none, (PySem.Value.ref 74), (PySem.Value.ref 75), (PySem.Value.ref 76), (PySem.Value.int 2212 0), (PySem.Value.int 6 0), (PySem.Value.str (PySem.Str.ofString "/claim/cut.py") 2213)]) #[])
noncomputable def o78_5 (P : Params) : Obj :=
  (PySem.Obj.mk (PySem.Value.type "function") none (PySem.Data.func (PySem.FuncData.mk (PySem.Str.ofString "map_table_b3") (PySem.Str.ofString "map_table_b3") p4.1 (PySem.FuncBody.stmts b4.1) s4.1 3 [] PySem.Value.none PySem.Value.none PySem.Value.none (PySem.Value.str (PySem.Str.ofString "cpy313.stringprep") 187) none (PySem.Value.ref 77) PySem.Value.none 0)) #[])
noncomputable def o3_6 (P : Params) : Obj :=
  (PySem.Obj.mk (PySem.Value.type "dict") none (PySem.Data.dict #[(PySem.DictEntry.mk (PySem.PyData.keyHash P (PySem.Str.ofString "__name__")) (PySem.Value.str (PySem.Str.ofString "__name__") 165) (PySem.Value.str (PySem.Str.ofString "cpy313.doctest") 2215)), (PySem.DictEntry.mk (PySem.PyData.keyHash P (PySem.Str.ofString "__doc__")) (PySem.Value.str (PySem.Str.ofString "__doc__") 166) PySem.Value.none), (PySem.DictEntry.mk (PySem.PyData.keyHash P (PySem.Str.ofString "__package__")) (PySem.Value.str (PySem.Str.ofString "__package__") 167) PySem.Value.none), (PySem.DictEntry.mk (PySem.PyData.keyHash P (PySem.Str.ofString "__loader__")) (PySem.Value.str (PySem.Str.ofString "__loader__") 168) (PySem.Value.builtin "__main__.__loader__#opaque")), (PySem.DictEntry.mk (PySem.PyData.keyHash P (PySem.Str.ofString "__spec__")) (PySem.Value.str (PySem.Str.ofString "__spec__") 169) PySem.Value.none), (PySem.DictEntry.mk (PySem.PyData.keyHash P (PySem.Str.ofString "__annotations__")) (PySem.Value.str (PySem.Str.ofString "__annotations__") 170) (PySem.Value.ref 6)), (PySem.DictEntry.mk (PySem.PyData.keyHash P (PySem.Str.ofString "__builtins__")) (PySem.Value.str (PySem.Str.ofString "__builtins__") 171) (PySem.Value.ref 4)), (PySem.DictEntry.mk (PySem.PyData.keyHash P (PySem.Str.ofString "__file__")) (PySem.Value.str (PySem.Str.ofString "__file__") 173) (PySem.Value.str (PySem.Str.ofString "/claim/cut.py") 172)), (PySem.DictEntry.mk (PySem.PyData.keyHash P (PySem.Str.ofString "__cached__")) (PySem.Value.str (PySem.Str.ofString "__cached__") 174) PySem.Value.none), (PySem.DictEntry.mk (PySem.PyData.keyHash P (PySem.Str.ofString "b1_set")) (PySem.Value.str (PySem.Str.ofString "b1_set") 248) (PySem.Value.ref 22)), (PySem.DictEntry.mk (PySem.PyData.keyHash P (PySem.Str.ofString "in_table_b1")) (PySem.Value.str (PySem.Str.ofString "in_table_b1") 255) (PySem.Value.ref 32)), (PySem.DictEntry.mk (PySem.PyData.keyHash P (PySem.Str.ofString "b3_exceptions")) (PySem.Value.str (PySem.Str.ofString "b3_exceptions") 2206) (PySem.Value.ref 33)), (PySem.DictEntry.mk (PySem.PyData.keyHash P (PySem.Str.ofString "map_table_b3")) (PySem.Value.str (PySem.Str.ofString "map_table_b3") 2214) (PySem.Value.ref 78))] 13) #[])
noncomputable def o3_7 (P : Params) : Obj :=
  (PySem.Obj.mk (PySem.Value.type "dict") none (PySem.Data.dict #[(PySem.DictEntry.mk (PySem.PyData.keyHash P (PySem.Str.ofString "__name__")) (PySem.Value.str (PySem.Str.ofString "__name__") 165) (PySem.Value.str (PySem.Str.ofString "cpy313.doctest") 2215)), (PySem.DictEntry.mk (PySem.PyData.keyHash P (PySem.Str.ofString "__doc__")) (PySem.Value.str (PySem.Str.ofString "__doc__") 166) PySem.Value.none), (PySem.DictEntry.mk (PySem.PyData.keyHash P (PySem.Str.ofString "__package__")) (PySem.Value.str (PySem.Str.ofString "__package__") 167) PySem.Value.none), (PySem.DictEntry.mk (PySem.PyData.keyHash P (PySem.Str.ofString "__loader__")) (PySem.Value.str (PySem.Str.ofString "__loader__") 168) (PySem.Value.builtin "__main__.__loader__#opaque")), (PySem.DictEntry.mk (PySem.PyData.keyHash P (PySem.Str.ofString "__spec__")) (PySem.Value.str (PySem.Str.ofString "__spec__") 169) PySem.Value.none), (PySem.DictEntry.mk (PySem.PyData.keyHash P (PySem.Str.ofString "__annotations__")) (PySem.Value.str (PySem.Str.ofString "__annotations__") 170) (PySem.Value.ref 6)), (PySem.DictEntry.mk (PySem.PyData.keyHash P (PySem.Str.ofString "__builtins__")) (PySem.Value.str (PySem.Str.ofString "__builtins__") 171) (PySem.Value.ref 4)), (PySem.DictEntry.mk (PySem.PyData.keyHash P (PySem.Str.ofString "__file__")) (PySem.Value.str (PySem.Str.ofString "__file__") 173) (PySem.Value.str (PySem.Str.ofString "/claim/cut.py") 172)), (PySem.DictEntry.mk (PySem.PyData.keyHash P (PySem.Str.ofString "__cached__")) (PySem.Value.str (PySem.Str.ofString "__cached__") 174) PySem.Value.none), (PySem.DictEntry.mk (PySem.PyData.keyHash P (PySem.Str.ofString "b1_set")) (PySem.Value.str (PySem.Str.ofString "b1_set") 248) (PySem.Value.ref 22)), (PySem.DictEntry.mk (PySem.PyData.keyHash P (PySem.Str.ofString "in_table_b1")) (PySem.Value.str (PySem.Str.ofString "in_table_b1") 255) (PySem.Value.ref 32)), (PySem.DictEntry.mk (PySem.PyData.keyHash P (PySem.Str.ofString "b3_exceptions")) (PySem.Value.str (PySem.Str.ofString "b3_exceptions") 2206) (PySem.Value.ref 33)), (PySem.DictEntry.mk (PySem.PyData.keyHash P (PySem.Str.ofString "map_table_b3")) (PySem.Value.str (PySem.Str.ofString "map_table_b3") 2214) (PySem.Value.ref 78)), (PySem.DictEntry.mk (PySem.PyData.keyHash P (PySem.Str.ofString "ELLIPSIS_MARKER")) (PySem.Value.str (PySem.Str.ofString "ELLIPSIS_MARKER") 2218) (PySem.Value.str (PySem.Str.ofString "...") 2217))] 14) #[])
noncomputable def o3_8 (P : Params) : Obj :=
  (PySem.Obj.mk (PySem.Value.type "dict") none (PySem.Data.dict #[(PySem.DictEntry.mk (PySem.PyData.keyHash P (PySem.Str.ofString "__name__")) (PySem.Value.str (PySem.Str.ofString "__name__") 165) (PySem.Value.str (PySem.Str.ofString "cpy313.doctest") 2215)), (PySem.DictEntry.mk (PySem.PyData.keyHash P (PySem.Str.ofString "__doc__")) (PySem.Value.str (PySem.Str.ofString "__doc__") 166) PySem.Value.none), (PySem.DictEntry.mk (PySem.PyData.keyHash P (PySem.Str.ofString "__package__")) (PySem.Value.str (PySem.Str.ofString "__package__") 167) PySem.Value.none), (PySem.DictEntry.mk (PySem.PyData.keyHash P (PySem.Str.ofString "__loader__")) (PySem.Value.str (PySem.Str.ofString "__loader__") 168) (PySem.Value.builtin "__main__.__loader__#opaque")), (PySem.DictEntry.mk (PySem.PyData.keyHash P (PySem.Str.ofString "__spec__")) (PySem.Value.str (PySem.Str.ofString "__spec__") 169) PySem.Value.none), (PySem.DictEntry.mk (PySem.PyData.keyHash P (PySem.Str.ofString "__annotations__")) (PySem.Value.str (PySem.Str.ofString "__annotations__") 170) (PySem.Value.ref 6)), (PySem.DictEntry.mk (PySem.PyData.keyHash P (PySem.Str.ofString "__builtins__")) (PySem.Value.str (PySem.Str.ofString "__builtins__") 171) (PySem.Value.ref 4)), (PySem.DictEntry.mk (PySem.PyData.keyHash P (PySem.Str.ofString "__file__")) (PySem.Value.str (PySem.Str.ofString "__file__") 173) (PySem.Value.str (PySem.Str.ofString "/claim/cut.py") 172)), (PySem.DictEntry.mk (PySem.PyData.keyHash P (PySem.Str.ofString "__cached__")) (PySem.Value.str (PySem.Str.ofString "__cached__") 174) PySem.Value.none), (PySem.DictEntry.mk (PySem.PyData.keyHash P (PySem.Str.ofString "b1_set")) (PySem.Value.str (PySem.Str.ofString "b1_set") 248) (PySem.Value.ref 22)), (PySem.DictEntry.mk (PySem.PyData.keyHash P (PySem.Str.ofString "in_table_b1")) (PySem.Value.str (PySem.Str.ofString "in_table_b1") 255) (PySem.Value.ref 32)), (PySem.DictEntry.mk (PySem.PyData.keyHash P (PySem.Str.ofString "b3_exceptions")) (PySem.Value.str (PySem.Str.ofString "b3_exceptions") 2206) (PySem.Value.ref 33)), (PySem.DictEntry.mk (PySem.PyData.keyHash P (PySem.Str.ofString "map_table_b3")) (PySem.Value.str (PySem.Str.ofString "map_table_b3") 2214) (PySem.Value.ref 78)), (PySem.DictEntry.mk (PySem.PyData.keyHash P (PySem.Str.ofString "ELLIPSIS_MARKER")) (PySem.Value.str (PySem.Str.ofString "ELLIPSIS_MARKER") 2218) (PySem.Value.str (PySem.Str.ofString "...") 2217)), (PySem.DictEntry.mk (PySem.PyData.keyHash P (PySem.Str.ofString "_ellipsis_match")) (PySem.Value.str (PySem.Str.ofString "_ellipsis_match") 2230) (PySem.Value.ref 85))] 15) #[])
noncomputable def o12_8 (P : Params) : Obj :=
  (PySem.Obj.mk PySem.Value.none none (PySem.Data.fields #[(PySem.Value.int 3 0), (PySem.Value.int 0 0), (PySem.Value.ref 31), (PySem.Value.int 6 0), (PySem.Value.int 0 0), (PySem.Value.ref 77), (PySem.Value.int 13 0), (PySem.Value.int 0 0), (PySem.Value.ref 84)]) #[])
noncomputable def o79_8 (P : Params) : Obj :=
  (PySem.Obj.mk (PySem.Value.type "tuple") none (PySem.Data.seq #[] 0) #[])
noncomputable def o80_8 (P : Params) : Obj :=
  (PySem.Obj.mk PySem.Value.none none (PySem.Data.fields #[]) #[])
noncomputable def o81_8 (P : Params) : Obj :=
  (PySem.Obj.mk (PySem.Value.type "tuple") none (PySem.Data.seq #[(PySem.Value.str (PySem.Str.ofString "want") 2222), (PySem.Value.str (PySem.Str.ofString "got") 2223), (PySem.Value.str (PySem.Str.ofString "ws") 2224), (PySem.Value.str (PySem.Str.ofString "startpos") 2225), (PySem.Value.str (PySem.Str.ofString "endpos") 2226), (PySem.Value.str (PySem.Str.ofString "w") 2227)] 0) #[])
noncomputable def o82_8 (P : Params) : Obj :=
  (PySem.Obj.mk (PySem.Value.type "tuple") none (PySem.Data.seq #[] 0) #[])
noncomputable def o83_8 (P : Params) : Obj :=
  (PySem.Obj.mk PySem.Value.none none (PySem.Data.func (PySem.FuncData.mk (PySem.Str.ofString "_ellipsis_match") (PySem.Str.ofString "_ellipsis_match") p7.1 (PySem.FuncBody.stmts b7.1) s7.1 0 [] PySem.Value.none PySem.Value.none PySem.Value.none PySem.Value.none none PySem.Value.none PySem.Value.none 0)) #[])
noncomputable def o84_8 (P : Params) : Obj :=
  (PySem.Obj.mk (PySem.Value.type "code") none (PySem.Data.fields #[(PySem.Value.str (PySem.Str.ofString "_ellipsis_match") 2219), (PySem.Value.str (PySem.Str.ofString "_ellipsis_match") 2220), (PySem.Value.str (PySem.Str.ofString "/claim/cut.py") 2221), (PySem.Value.int 13 0), (PySem.Value.int 2 0), (PySem.Value.int 0 0), (PySem.Value.int 0 0), (PySem.Value.int 3 0), (PySem.Value.ref 79), (PySem.Value.bool true), (PySem.Value.int 181 0), (PySem.Value.ref 80), PySem.Value.none, (PySem.Value.ref 81), (PySem.Value.ref 82), (PySem.Value.ref 83), (PySem.Value.int 2228 0), (PySem.Value.int 13 0), (PySem.Value.str (PySem.Str.ofString "/claim/cut.py") 2229)]) #[])
noncomputable def o85_8 (P : Params) : Obj :=
  (PySem.Obj.mk (PySem.Value.type "function") none (PySem.Data.func (PySem.FuncData.mk (PySem.Str.ofString "_ellipsis_match") (PySem.Str.ofString "_ellipsis_match") p7.1 (PySem.FuncBody.stmts b7.1) s7.1 3 [] PySem.Value.none PySem.Value.none PySem.Value.none (PySem.Value.str (PySem.Str.ofString "cpy313.doctest") 2215) none (PySem.Value.ref 84) PySem.Value.none 0)) #[])
noncomputable def o3_9 (P : Params) : Obj :=
  (PySem.Obj.mk (PySem.Value.type "dict") none (PySem.Data.dict #[(PySem.DictEntry.mk (PySem.PyData.keyHash P (PySem.Str.ofString "__name__")) (PySem.Value.str (PySem.Str.ofString "__name__") 165) (PySem.Value.str (PySem.Str.ofString "cpy313.ftplib") 2231)), (PySem.DictEntry.mk (PySem.PyData.keyHash P (PySem.Str.ofString "__doc__")) (PySem.Value.str (PySem.Str.ofString "__doc__") 166) PySem.Value.none), (PySem.DictEntry.mk (PySem.PyData.keyHash P (PySem.Str.ofString "__package__")) (PySem.Value.str (PySem.Str.ofString "__package__") 167) PySem.Value.none), (PySem.DictEntry.mk (PySem.PyData.keyHash P (PySem.Str.ofString "__loader__")) (PySem.Value.str (PySem.Str.ofString "__loader__") 168) (PySem.Value.builtin "__main__.__loader__#opaque")), (PySem.DictEntry.mk (PySem.PyData.keyHash P (PySem.Str.ofString "__spec__")) (PySem.Value.str (PySem.Str.ofString "__spec__") 169) PySem.Value.none), (PySem.DictEntry.mk (PySem.PyData.keyHash P (PySem.Str.ofString "__annotations__")) (PySem.Value.str (PySem.Str.ofString "__annotations__") 170) (PySem.Value.ref 6)), (PySem.DictEntry.mk (PySem.PyData.keyHash P (PySem.Str.ofString "__builtins__")) (PySem.Value.str (PySem.Str.ofString "__builtins__") 171) (PySem.Value.ref 4)), (PySem.DictEntry.mk (PySem.PyData.keyHash P (PySem.Str.ofString "__file__")) (PySem.Value.str (PySem.Str.ofString "__file__") 173) (PySem.Value.str (PySem.Str.ofString "/claim/cut.py") 172)), (PySem.DictEntry.mk (PySem.PyData.keyHash P (PySem.Str.ofString "__cached__")) (PySem.Value.str (PySem.Str.ofString "__cached__") 174) PySem.Value.none), (PySem.DictEntry.mk (PySem.PyData.keyHash P (PySem.Str.ofString "b1_set")) (PySem.Value.str (PySem.Str.ofString "b1_set") 248) (PySem.Value.ref 22)), (PySem.DictEntry.mk (PySem.PyData.keyHash P (PySem.Str.ofString "in_table_b1")) (PySem.Value.str (PySem.Str.ofString "in_table_b1") 255) (PySem.Value.ref 32)), (PySem.DictEntry.mk (PySem.PyData.keyHash P (PySem.Str.ofString "b3_exceptions")) (PySem.Value.str (PySem.Str.ofString "b3_exceptions") 2206) (PySem.Value.ref 33)), (PySem.DictEntry.mk (PySem.PyData.keyHash P (PySem.Str.ofString "map_table_b3")) (PySem.Value.str (PySem.Str.ofString "map_table_b3") 2214) (PySem.Value.ref 78)), (PySem.DictEntry.mk (PySem.PyData.keyHash P (PySem.Str.ofString "ELLIPSIS_MARKER")) (PySem.Value.str (PySem.Str.ofString "ELLIPSIS_MARKER") 2218) (PySem.Value.str (PySem.Str.ofString "...") 2217)), (PySem.DictEntry.mk (PySem.PyData.keyHash P (PySem.Str.ofString "_ellipsis_match")) (PySem.Value.str (PySem.Str.ofString "_ellipsis_match") 2230) (PySem.Value.ref 85))] 15) #[])
noncomputable def o2_10 (P : Params) : Obj :=
  (PySem.Obj.mk PySem.Value.none none (PySem.Data.dict #[(PySem.DictEntry.mk (PySem.PyData.keyHash P (PySem.Str.ofString "type.__subclasses__.Exception.0")) (PySem.Value.str (PySem.Str.ofString "type.__subclasses__.Exception.0") 2249) (PySem.Value.int 95 0)), (PySem.DictEntry.mk (PySem.PyData.keyHash P (PySem.Str.ofString "type.__subclasses__.Exception.n")) (PySem.Value.str (PySem.Str.ofString "type.__subclasses__.Exception.n") 2250) (PySem.Value.int 1 0))] 2) #[])
noncomputable def o3_10 (P : Params) : Obj :=
  (PySem.Obj.mk (PySem.Value.type "dict") none (PySem.Data.dict #[(PySem.DictEntry.mk (PySem.PyData.keyHash P (PySem.Str.ofString "__name__")) (PySem.Value.str (PySem.Str.ofString "__name__") 165) (PySem.Value.str (PySem.Str.ofString "cpy313.ftplib") 2231)), (PySem.DictEntry.mk (PySem.PyData.keyHash P (PySem.Str.ofString "__doc__")) (PySem.Value.str (PySem.Str.ofString "__doc__") 166) PySem.Value.none), (PySem.DictEntry.mk (PySem.PyData.keyHash P (PySem.Str.ofString "__package__")) (PySem.Value.str (PySem.Str.ofString "__package__") 167) PySem.Value.none), (PySem.DictEntry.mk (PySem.PyData.keyHash P (PySem.Str.ofString "__loader__")) (PySem.Value.str (PySem.Str.ofString "__loader__") 168) (PySem.Value.builtin "__main__.__loader__#opaque")), (PySem.DictEntry.mk (PySem.PyData.keyHash P (PySem.Str.ofString "__spec__")) (PySem.Value.str (PySem.Str.ofString "__spec__") 169) PySem.Value.none), (PySem.DictEntry.mk (PySem.PyData.keyHash P (PySem.Str.ofString "__annotations__")) (PySem.Value.str (PySem.Str.ofString "__annotations__") 170) (PySem.Value.ref 6)), (PySem.DictEntry.mk (PySem.PyData.keyHash P (PySem.Str.ofString "__builtins__")) (PySem.Value.str (PySem.Str.ofString "__builtins__") 171) (PySem.Value.ref 4)), (PySem.DictEntry.mk (PySem.PyData.keyHash P (PySem.Str.ofString "__file__")) (PySem.Value.str (PySem.Str.ofString "__file__") 173) (PySem.Value.str (PySem.Str.ofString "/claim/cut.py") 172)), (PySem.DictEntry.mk (PySem.PyData.keyHash P (PySem.Str.ofString "__cached__")) (PySem.Value.str (PySem.Str.ofString "__cached__") 174) PySem.Value.none), (PySem.DictEntry.mk (PySem.PyData.keyHash P (PySem.Str.ofString "b1_set")) (PySem.Value.str (PySem.Str.ofString "b1_set") 248) (PySem.Value.ref 22)), (PySem.DictEntry.mk (PySem.PyData.keyHash P (PySem.Str.ofString "in_table_b1")) (PySem.Value.str (PySem.Str.ofString "in_table_b1") 255) (PySem.Value.ref 32)), (PySem.DictEntry.mk (PySem.PyData.keyHash P (PySem.Str.ofString "b3_exceptions")) (PySem.Value.str (PySem.Str.ofString "b3_exceptions") 2206) (PySem.Value.ref 33)), (PySem.DictEntry.mk (PySem.PyData.keyHash P (PySem.Str.ofString "map_table_b3")) (PySem.Value.str (PySem.Str.ofString "map_table_b3") 2214) (PySem.Value.ref 78)), (PySem.DictEntry.mk (PySem.PyData.keyHash P (PySem.Str.ofString "ELLIPSIS_MARKER")) (PySem.Value.str (PySem.Str.ofString "ELLIPSIS_MARKER") 2218) (PySem.Value.str (PySem.Str.ofString "...") 2217)), (PySem.DictEntry.mk (PySem.PyData.keyHash P (PySem.Str.ofString "_ellipsis_match")) (PySem.Value.str (PySem.Str.ofString "_ellipsis_match") 2230) (PySem.Value.ref 85)), (PySem.DictEntry.mk (PySem.PyData.keyHash P (PySem.Str.ofString "Error")) (PySem.Value.str (PySem.Str.ofString "Error") 2252) (PySem.Value.ref 95))] 16) #[])
noncomputable def o12_10 (P : Params) : Obj :=
  (PySem.Obj.mk PySem.Value.none none (PySem.Data.fields #[(PySem.Value.int 3 0), (PySem.Value.int 0 0), (PySem.Value.ref 31), (PySem.Value.int 6 0), (PySem.Value.int 0 0), (PySem.Value.ref 77), (PySem.Value.int 13 0), (PySem.Value.int 0 0), (PySem.Value.ref 84), (PySem.Value.int 42 0), (PySem.Value.int 0 0), (PySem.Value.ref 91)]) #[])
noncomputable def o86_10 (P : Params) : Obj :=
  (PySem.Obj.mk (PySem.Value.type "tuple") none (PySem.Data.seq #[(PySem.Value.type "Exception")] 0) #[])
noncomputable def o87_10 (P : Params) : Obj :=
  (PySem.Obj.mk (PySem.Value.type "builtin_function_or_method") none (PySem.Data.fields #[(PySem.Value.builtin "type.__prepare__"), (PySem.Value.type "type")]) #[])
noncomputable def o88_10 (P : Params) : Obj :=
  (PySem.Obj.mk (PySem.Value.type "dict") none (PySem.Data.dict #[(PySem.DictEntry.mk (PySem.PyData.keyHash P (PySem.Str.ofString "__module__")) (PySem.Value.str (PySem.Str.ofString "__module__") 2240) (PySem.Value.str (PySem.Str.ofString "cpy313.ftplib") 2231)), (PySem.DictEntry.mk (PySem.PyData.keyHash P (PySem.Str.ofString "__qualname__")) (PySem.Value.str (PySem.Str.ofString "__qualname__") 2242) (PySem.Value.str (PySem.Str.ofString "Error") 2241)), (PySem.DictEntry.mk (PySem.PyData.keyHash P (PySem.Str.ofString "__firstlineno__")) (PySem.Value.str (PySem.Str.ofString "__firstlineno__") 2244) (PySem.Value.int 42 2243)), (PySem.DictEntry.mk (PySem.PyData.keyHash P (PySem.Str.ofString "__static_attributes__")) (PySem.Value.str (PySem.Str.ofString "__static_attributes__") 2245) (PySem.Value.ref 93))] 4) #[])
noncomputable def o89_10 (P : Params) : Obj :=
  (PySem.Obj.mk (PySem.Value.type "tuple") none (PySem.Data.seq #[] 0) #[])
noncomputable def o90_10 (P : Params) : Obj :=
  (PySem.Obj.mk PySem.Value.none none (PySem.Data.fields #[]) #[])
noncomputable def o91_10 (P : Params) : Obj :=
  (PySem.Obj.mk (PySem.Value.type "code") none (PySem.Data.fields #[(PySem.Value.str (PySem.Str.ofString "Error") 2235), (PySem.Value.str (PySem.Str.ofString "Error") 2236), (PySem.Value.str (PySem.Str.ofString "/claim/cut.py") 2237), (PySem.Value.int 42 0), (PySem.Value.int 0 0), (PySem.Value.int 0 0), (PySem.Value.int 0 0), (PySem.Value.int 0 0), (PySem.Value.ref 89), (PySem.Value.bool false), (PySem.Value.int 181 0), (PySem.Value.ref 90), PySem.Value.none, PySem.Value.none, PySem.Value.none, PySem.Value.none, (PySem.Value.int 2238 0), (PySem.Value.int 42 0), (PySem.Value.str (PySem.Str.ofString "/claim/cut.py") 2239)]) #[])
noncomputable def o92_10 (P : Params) : Obj :=
  (PySem.Obj.mk (PySem.Value.type "frame") none PySem.Data.plain #[(some (PySem.Value.ref 91)), (some (PySem.Value.ref 3)), (some (PySem.Value.ref 88)), none, (some (PySem.Value.str (PySem.Str.ofString "cpy313.ftplib") 2231)), none, (some (PySem.Value.ref 0))])
noncomputable def o93_10 (P : Params) : Obj :=
  (PySem.Obj.mk (PySem.Value.type "tuple") none (PySem.Data.seq #[] 0) #[])
noncomputable def o94_10 (P : Params) : Obj :=
  (PySem.Obj.mk (PySem.Value.type "dict") none (PySem.Data.dict #[(PySem.DictEntry.mk (PySem.PyData.keyHash P (PySem.Str.ofString "__module__")) (PySem.Value.str (PySem.Str.ofString "__module__") 2240) (PySem.Value.str (PySem.Str.ofString "cpy313.ftplib") 2231)), (PySem.DictEntry.mk (PySem.PyData.keyHash P (PySem.Str.ofString "__firstlineno__")) (PySem.Value.str (PySem.Str.ofString "__firstlineno__") 2244) (PySem.Value.int 42 2243)), (PySem.DictEntry.mk (PySem.PyData.keyHash P (PySem.Str.ofString "__static_attributes__")) (PySem.Value.str (PySem.Str.ofString "__static_attributes__") 2245) (PySem.Value.ref 93)), (PySem.DictEntry.mk (PySem.PyData.keyHash P (PySem.Str.ofString "__weakref__")) (PySem.Value.str (PySem.Str.ofString "__weakref__") 2247) (PySem.Value.ref 96)), (PySem.DictEntry.mk (PySem.PyData.keyHash P (PySem.Str.ofString "__doc__")) (PySem.Value.str (PySem.Str.ofString "__doc__") 2248) PySem.Value.none)] 3) #[])
noncomputable def o95_10 (P : Params) : Obj :=
  (PySem.Obj.mk (PySem.Value.type "type") none (PySem.Data.cls (PySem.ClassData.mk (PySem.Str.ofString "Error") [(PySem.Value.type "Exception")] [(PySem.Value.ref 95), (PySem.Value.type "Exception"), (PySem.Value.type "BaseException"), (PySem.Value.type "object")] 94 (PySem.Str.ofString "Error") true [] [] false none false)) #[(some (PySem.Value.ref 86)), none, (some (PySem.Value.str (PySem.Str.ofString "Error") 2233)), (some (PySem.Value.str (PySem.Str.ofString "Error") 2241)), (some (PySem.Value.builtin "Exception.__new__")), (some (PySem.Value.bool true))])
noncomputable def o96_10 (P : Params) : Obj :=
  (PySem.Obj.mk (PySem.Value.type "getset_descriptor") none (PySem.Data.fields #[(PySem.Value.str (PySem.Str.ofString "__weakref__") 2246), (PySem.Value.ref 95), (PySem.Value.builtin "ExceptionGroup.__weakref__"), PySem.Value.none]) #[])
noncomputable def o97_10 (P : Params) : Obj :=
  (PySem.Obj.mk (PySem.Value.type "super") none (PySem.Data.fields #[(PySem.Value.ref 95), (PySem.Value.ref 95), (PySem.Value.ref 95)]) #[])
noncomputable def o98_10 (P : Params) : Obj :=
  (PySem.Obj.mk (PySem.Value.type "builtin_function_or_method") none (PySem.Data.fields #[(PySem.Value.builtin "object.__init_subclass__"), (PySem.Value.ref 95)]) #[])
noncomputable def o3_11 (P : Params) : Obj :=
  (PySem.Obj.mk (PySem.Value.type "dict") none (PySem.Data.dict #[(PySem.DictEntry.mk (PySem.PyData.keyHash P (PySem.Str.ofString "__name__")) (PySem.Value.str (PySem.Str.ofString "__name__") 165) (PySem.Value.str (PySem.Str.ofString "cpy313.ftplib") 2231)), (PySem.DictEntry.mk (PySem.PyData.keyHash P (PySem.Str.ofString "__doc__")) (PySem.Value.str (PySem.Str.ofString "__doc__") 166) PySem.Value.none), (PySem.DictEntry.mk (PySem.PyData.keyHash P (PySem.Str.ofString "__package__")) (PySem.Value.str (PySem.Str.ofString "__package__") 167) PySem.Value.none), (PySem.DictEntry.mk (PySem.PyData.keyHash P (PySem.Str.ofString "__loader__")) (PySem.Value.str (PySem.Str.ofString "__loader__") 168) (PySem.Value.builtin "__main__.__loader__#opaque")), (PySem.DictEntry.mk (PySem.PyData.keyHash P (PySem.Str.ofString "__spec__")) (PySem.Value.str (PySem.Str.ofString "__spec__") 169) PySem.Value.none), (PySem.DictEntry.mk (PySem.PyData.keyHash P (PySem.Str.ofString "__annotations__")) (PySem.Value.str (PySem.Str.ofString "__annotations__") 170) (PySem.Value.ref 6)), (PySem.DictEntry.mk (PySem.PyData.keyHash P (PySem.Str.ofString "__builtins__")) (PySem.Value.str (PySem.Str.ofString "__builtins__") 171) (PySem.Value.ref 4)), (PySem.DictEntry.mk (PySem.PyData.keyHash P (PySem.Str.ofString "__file__")) (PySem.Value.str (PySem.Str.ofString "__file__") 173) (PySem.Value.str (PySem.Str.ofString "/claim/cut.py") 172)), (PySem.DictEntry.mk (PySem.PyData.keyHash P (PySem.Str.ofString "__cached__")) (PySem.Value.str (PySem.Str.ofString "__cached__") 174) PySem.Value.none), (PySem.DictEntry.mk (PySem.PyData.keyHash P (PySem.Str.ofString "b1_set")) (PySem.Value.str (PySem.Str.ofString "b1_set") 248) (PySem.Value.ref 22)), (PySem.DictEntry.mk (PySem.PyData.keyHash P (PySem.Str.ofString "in_table_b1")) (PySem.Value.str (PySem.Str.ofString "in_table_b1") 255) (PySem.Value.ref 32)), (PySem.DictEntry.mk (PySem.PyData.keyHash P (PySem.Str.ofString "b3_exceptions")) (PySem.Value.str (PySem.Str.ofString "b3_exceptions") 2206) (PySem.Value.ref 33)), (PySem.DictEntry.mk (PySem.PyData.keyHash P (PySem.Str.ofString "map_table_b3")) (PySem.Value.str (PySem.Str.ofString "map_table_b3") 2214) (PySem.Value.ref 78)), (PySem.DictEntry.mk (PySem.PyData.keyHash P (PySem.Str.ofString "ELLIPSIS_MARKER")) (PySem.Value.str (PySem.Str.ofString "ELLIPSIS_MARKER") 2218) (PySem.Value.str (PySem.Str.ofString "...") 2217)), (PySem.DictEntry.mk (PySem.PyData.keyHash P (PySem.Str.ofString "_ellipsis_match")) (PySem.Value.str (PySem.Str.ofString "_ellipsis_match") 2230) (PySem.Value.ref 85)), (PySem.DictEntry.mk (PySem.PyData.keyHash P (PySem.Str.ofString "Error")) (PySem.Value.str (PySem.Str.ofString "Error") 2252) (PySem.Value.ref 95)), (PySem.DictEntry.mk (PySem.PyData.keyHash P (PySem.Str.ofString "error_reply")) (PySem.Value.str (PySem.Str.ofString "error_reply") 2268) (PySem.Value.ref 108))] 17) #[])
noncomputable def o12_11 (P : Params) : Obj :=
  (PySem.Obj.mk PySem.Value.none none (PySem.Data.fields #[(PySem.Value.int 3 0), (PySem.Value.int 0 0), (PySem.Value.ref 31), (PySem.Value.int 6 0), (PySem.Value.int 0 0), (PySem.Value.ref 77), (PySem.Value.int 13 0), (PySem.Value.int 0 0), (PySem.Value.ref 84), (PySem.Value.int 42 0), (PySem.Value.int 0 0), (PySem.Value.ref 91), (PySem.Value.int 44 0), (PySem.Value.int 0 0), (PySem.Value.ref 104)]) #[])
noncomputable def o95_11 (P : Params) : Obj :=
  (PySem.Obj.mk (PySem.Value.type "type") none (PySem.Data.cls (PySem.ClassData.mk (PySem.Str.ofString "Error") [(PySem.Value.type "Exception")] [(PySem.Value.ref 95), (PySem.Value.type "Exception"), (PySem.Value.type "BaseException"), (PySem.Value.type "object")] 94 (PySem.Str.ofString "Error") true [] [(PySem.Value.ref 108)] false none false)) #[(some (PySem.Value.ref 86)), none, (some (PySem.Value.str (PySem.Str.ofString "Error") 2233)), (some (PySem.Value.str (PySem.Str.ofString "Error") 2241)), (some (PySem.Value.builtin "Exception.__new__")), (some (PySem.Value.bool true))])
noncomputable def o99_11 (P : Params) : Obj :=
  (PySem.Obj.mk (PySem.Value.type "tuple") none (PySem.Data.seq #[(PySem.Value.ref 95)] 0) #[])
noncomputable def o100_11 (P : Params) : Obj :=
  (PySem.Obj.mk (PySem.Value.type "builtin_function_or_method") none (PySem.Data.fields #[(PySem.Value.builtin "type.__prepare__"), (PySem.Value.type "type")]) #[])
noncomputable def o101_11 (P : Params) : Obj :=
  (PySem.Obj.mk (PySem.Value.type "dict") none (PySem.Data.dict #[(PySem.DictEntry.mk (PySem.PyData.keyHash P (PySem.Str.ofString "__module__")) (PySem.Value.str (PySem.Str.ofString "__module__") 2260) (PySem.Value.str (PySem.Str.ofString "cpy313.ftplib") 2231)), (PySem.DictEntry.mk (PySem.PyData.keyHash P (PySem.Str.ofString "__qualname__")) (PySem.Value.str (PySem.Str.ofString "__qualname__") 2262) (PySem.Value.str (PySem.Str.ofString "error_reply") 2261)), (PySem.DictEntry.mk (PySem.PyData.keyHash P (PySem.Str.ofString "__firstlineno__")) (PySem.Value.str (PySem.Str.ofString "__firstlineno__") 2264) (PySem.Value.int 44 2263)), (PySem.DictEntry.mk (PySem.PyData.keyHash P (PySem.Str.ofString "__static_attributes__")) (PySem.Value.str (PySem.Str.ofString "__static_attributes__") 2265) (PySem.Value.ref 106))] 4) #[])
noncomputable def o102_11 (P : Params) : Obj :=
  (PySem.Obj.mk (PySem.Value.type "tuple") none (PySem.Data.seq #[] 0) #[])
noncomputable def o103_11 (P : Params) : Obj :=
  (PySem.Obj.mk PySem.Value.none none (PySem.Data.fields #[]) #[])
noncomputable def o104_11 (P : Params) : Obj :=
  (PySem.Obj.mk (PySem.Value.type "code") none (PySem.Data.fields #[(PySem.Value.str (PySem.Str.ofString "error_reply") 2255), (PySem.Value.str (PySem.Str.ofString "error_reply") 2256), (PySem.Value.str (PySem.Str.ofString "/claim/cut.py") 2257), (PySem.Value.int 44 0), (PySem.Value.int 0 0), (PySem.Value.int 0 0), (PySem.Value.int 0 0), (PySem.Value.int 0 0), (PySem.Value.ref 102), (PySem.Value.bool false), (PySem.Value.int 181 0), (PySem.Value.ref 103), PySem.Value.none, PySem.Value.none, PySem.Value.none, PySem.Value.none, (PySem.Value.int 2258 0), (PySem.Value.int 44 0), (PySem.Value.str (PySem.Str.ofString "/claim/cut.py") 2259)]) #[])
noncomputable def o105_11 (P : Params) : Obj :=
  (PySem.Obj.mk (PySem.Value.type "frame") none PySem.Data.plain #[(some (PySem.Value.ref 104)), (some (PySem.Value.ref 3)), (some (PySem.Value.ref 101)), none, (some (PySem.Value.str (PySem.Str.ofString "cpy313.ftplib") 2231)), none, (some (PySem.Value.ref 0))])
noncomputable def o106_11 (P : Params) : Obj :=
  (PySem.Obj.mk (PySem.Value.type "tuple") none (PySem.Data.seq #[] 0) #[])
noncomputable def o107_11 (P : Params) : Obj :=
  (PySem.Obj.mk (PySem.Value.type "dict") none (PySem.Data.dict #[(PySem.DictEntry.mk (PySem.PyData.keyHash P (PySem.Str.ofString "__module__")) (PySem.Value.str (PySem.Str.ofString "__module__") 2260) (PySem.Value.str (PySem.Str.ofString "cpy313.ftplib") 2231)), (PySem.DictEntry.mk (PySem.PyData.keyHash P (PySem.Str.ofString "__firstlineno__")) (PySem.Value.str (PySem.Str.ofString "__firstlineno__") 2264) (PySem.Value.int 44 2263)), (PySem.DictEntry.mk (PySem.PyData.keyHash P (PySem.Str.ofString "__static_attributes__")) (PySem.Value.str (PySem.Str.ofString "__static_attributes__") 2265) (PySem.Value.ref 106)), (PySem.DictEntry.mk (PySem.PyData.keyHash P (PySem.Str.ofString "__doc__")) (PySem.Value.str (PySem.Str.ofString "__doc__") 2266) PySem.Value.none)] 2) #[])
noncomputable def o108_11 (P : Params) : Obj :=
  (PySem.Obj.mk (PySem.Value.type "type") none (PySem.Data.cls (PySem.ClassData.mk (PySem.Str.ofString "error_reply") [(PySem.Value.ref 95)] [(PySem.Value.ref 108), (PySem.Value.ref 95), (PySem.Value.type "Exception"), (PySem.Value.type "BaseException"), (PySem.Value.type "object")] 107 (PySem.Str.ofString "error_reply") true [] [] false none false)) #[(some (PySem.Value.ref 99)), none, (some (PySem.Value.str (PySem.Str.ofString "error_reply") 2253)), (some (PySem.Value.str (PySem.Str.ofString "error_reply") 2261)), (some (PySem.Value.builtin "Exception.__new__")), (some (PySem.Value.bool true))])
noncomputable def o109_11 (P : Params) : Obj :=
  (PySem.Obj.mk (PySem.Value.type "super") none (PySem.Data.fields #[(PySem.Value.ref 108), (PySem.Value.ref 108), (PySem.Value.ref 108)]) #[])
noncomputable def o110_11 (P : Params) : Obj :=
  (PySem.Obj.mk (PySem.Value.type "builtin_function_or_method") none (PySem.Data.fields #[(PySem.Value.builtin "object.__init_subclass__"), (PySem.Value.ref 108)]) #[])
noncomputable def o3_12 (P : Params) : Obj :=
  (PySem.Obj.mk (PySem.Value.type "dict") none (PySem.Data.dict #[(PySem.DictEntry.mk (PySem.PyData.keyHash P (PySem.Str.ofString "__name__")) (PySem.Value.str (PySem.Str.ofString "__name__") 165) (PySem.Value.str (PySem.Str.ofString "cpy313.ftplib") 2231)), (PySem.DictEntry.mk (PySem.PyData.keyHash P (PySem.Str.ofString "__doc__")) (PySem.Value.str (PySem.Str.ofString "__doc__") 166) PySem.Value.none), (PySem.DictEntry.mk (PySem.PyData.keyHash P (PySem.Str.ofString "__package__")) (PySem.Value.str (PySem.Str.ofString "__package__") 167) PySem.Value.none), (PySem.DictEntry.mk (PySem.PyData.keyHash P (PySem.Str.ofString "__loader__")) (PySem.Value.str (PySem.Str.ofString "__loader__") 168) (PySem.Value.builtin "__main__.__loader__#opaque")), (PySem.DictEntry.mk (PySem.PyData.keyHash P (PySem.Str.ofString "__spec__")) (PySem.Value.str (PySem.Str.ofString "__spec__") 169) PySem.Value.none), (PySem.DictEntry.mk (PySem.PyData.keyHash P (PySem.Str.ofString "__annotations__")) (PySem.Value.str (PySem.Str.ofString "__annotations__") 170) (PySem.Value.ref 6)), (PySem.DictEntry.mk (PySem.PyData.keyHash P (PySem.Str.ofString "__builtins__")) (PySem.Value.str (PySem.Str.ofString "__builtins__") 171) (PySem.Value.ref 4)), (PySem.DictEntry.mk (PySem.PyData.keyHash P (PySem.Str.ofString "__file__")) (PySem.Value.str (PySem.Str.ofString "__file__") 173) (PySem.Value.str (PySem.Str.ofString "/claim/cut.py") 172)), (PySem.DictEntry.mk (PySem.PyData.keyHash P (PySem.Str.ofString "__cached__")) (PySem.Value.str (PySem.Str.ofString "__cached__") 174) PySem.Value.none), (PySem.DictEntry.mk (PySem.PyData.keyHash P (PySem.Str.ofString "b1_set")) (PySem.Value.str (PySem.Str.ofString "b1_set") 248) (PySem.Value.ref 22)), (PySem.DictEntry.mk (PySem.PyData.keyHash P (PySem.Str.ofString "in_table_b1")) (PySem.Value.str (PySem.Str.ofString "in_table_b1") 255) (PySem.Value.ref 32)), (PySem.DictEntry.mk (PySem.PyData.keyHash P (PySem.Str.ofString "b3_exceptions")) (PySem.Value.str (PySem.Str.ofString "b3_exceptions") 2206) (PySem.Value.ref 33)), (PySem.DictEntry.mk (PySem.PyData.keyHash P (PySem.Str.ofString "map_table_b3")) (PySem.Value.str (PySem.Str.ofString "map_table_b3") 2214) (PySem.Value.ref 78)), (PySem.DictEntry.mk (PySem.PyData.keyHash P (PySem.Str.ofString "ELLIPSIS_MARKER")) (PySem.Value.str (PySem.Str.ofString "ELLIPSIS_MARKER") 2218) (PySem.Value.str (PySem.Str.ofString "...") 2217)), (PySem.DictEntry.mk (PySem.PyData.keyHash P (PySem.Str.ofString "_ellipsis_match")) (PySem.Value.str (PySem.Str.ofString "_ellipsis_match") 2230) (PySem.Value.ref 85)), (PySem.DictEntry.mk (PySem.PyData.keyHash P (PySem.Str.ofString "Error")) (PySem.Value.str (PySem.Str.ofString "Error") 2252) (PySem.Value.ref 95)), (PySem.DictEntry.mk (PySem.PyData.keyHash P (PySem.Str.ofString "error_reply")) (PySem.Value.str (PySem.Str.ofString "error_reply") 2268) (PySem.Value.ref 108)), (PySem.DictEntry.mk (PySem.PyData.keyHash P (PySem.Str.ofString "error_proto")) (PySem.Value.str (PySem.Str.ofString "error_proto") 2284) (PySem.Value.ref 120))] 18) #[])
noncomputable def o12_12 (P : Params) : Obj :=
  (PySem.Obj.mk PySem.Value.none none (PySem.Data.fields #[(PySem.Value.int 3 0), (PySem.Value.int 0 0), (PySem.Value.ref 31), (PySem.Value.int 6 0), (PySem.Value.int 0 0), (PySem.Value.ref 77), (PySem.Value.int 13 0), (PySem.Value.int 0 0), (PySem.Value.ref 84), (PySem.Value.int 42 0), (PySem.Value.int 0 0), (PySem.Value.ref 91), (PySem.Value.int 44 0), (PySem.Value.int 0 0), (PySem.Value.ref 104), (PySem.Value.int 46 0), (PySem.Value.int 0 0), (PySem.Value.ref 116)]) #[])
noncomputable def o95_12 (P : Params) : Obj :=
  (PySem.Obj.mk (PySem.Value.type "type") none (PySem.Data.cls (PySem.ClassData.mk (PySem.Str.ofString "Error") [(PySem.Value.type "Exception")] [(PySem.Value.ref 95), (PySem.Value.type "Exception"), (PySem.Value.type "BaseException"), (PySem.Value.type "object")] 94 (PySem.Str.ofString "Error") true [] [(PySem.Value.ref 108), (PySem.Value.ref 120)] false none false)) #[(some (PySem.Value.ref 86)), none, (some (PySem.Value.str (PySem.Str.ofString "Error") 2233)), (some (PySem.Value.str (PySem.Str.ofString "Error") 2241)), (some (PySem.Value.builtin "Exception.__new__")), (some (PySem.Value.bool true))])
noncomputable def o111_12 (P : Params) : Obj :=
  (PySem.Obj.mk (PySem.Value.type "tuple") none (PySem.Data.seq #[(PySem.Value.ref 95)] 0) #[])
noncomputable def o112_12 (P : Params) : Obj :=
  (PySem.Obj.mk (PySem.Value.type "builtin_function_or_method") none (PySem.Data.fields #[(PySem.Value.builtin "type.__prepare__"), (PySem.Value.type "type")]) #[])
noncomputable def o113_12 (P : Params) : Obj :=
  (PySem.Obj.mk (PySem.Value.type "dict") none (PySem.Data.dict #[(PySem.DictEntry.mk (PySem.PyData.keyHash P (PySem.Str.ofString "__module__")) (PySem.Value.str (PySem.Str.ofString "__module__") 2276) (PySem.Value.str (PySem.Str.ofString "cpy313.ftplib") 2231)), (PySem.DictEntry.mk (PySem.PyData.keyHash P (PySem.Str.ofString "__qualname__")) (PySem.Value.str (PySem.Str.ofString "__qualname__") 2278) (PySem.Value.str (PySem.Str.ofString "error_proto") 2277)), (PySem.DictEntry.mk (PySem.PyData.keyHash P (PySem.Str.ofString "__firstlineno__")) (PySem.Value.str (PySem.Str.ofString "__firstlineno__") 2280) (PySem.Value.int 46 2279)), (PySem.DictEntry.mk (PySem.PyData.keyHash P (PySem.Str.ofString "__static_attributes__")) (PySem.Value.str (PySem.Str.ofString "__static_attributes__") 2281) (PySem.Value.ref 118))] 4) #[])
noncomputable def o114_12 (P : Params) : Obj :=
  (PySem.Obj.mk (PySem.Value.type "tuple") none (PySem.Data.seq #[] 0) #[])
noncomputable def o115_12 (P : Params) : Obj :=
  (PySem.Obj.mk PySem.Value.none none (PySem.Data.fields #[]) #[])
noncomputable def o116_12 (P : Params) : Obj :=
  (PySem.Obj.mk (PySem.Value.type "code") none (PySem.Data.fields #[(PySem.Value.str (PySem.Str.ofString "error_proto") 2271), (PySem.Value.str (PySem.Str.ofString "error_proto") 2272), (PySem.Value.str (PySem.Str.ofString "/claim/cut.py") 2273), (PySem.Value.int 46 0), (PySem.Value.int 0 0), (PySem.Value.int 0 0), (PySem.Value.int 0 0), (PySem.Value.int 0 0), (PySem.Value.ref 114), (PySem.Value.bool false), (PySem.Value.int 181 0), (PySem.Value.ref 115), PySem.Value.none, PySem.Value.none, PySem.Value.none, PySem.Value.none, (PySem.Value.int 2274 0), (PySem.Value.int 46 0), (PySem.Value.str (PySem.Str.ofString "/claim/cut.py") 2275)]) #[])
noncomputable def o117_12 (P : Params) : Obj :=
  (PySem.Obj.mk (PySem.Value.type "frame") none PySem.Data.plain #[(some (PySem.Value.ref 116)), (some (PySem.Value.ref 3)), (some (PySem.Value.ref 113)), none, (some (PySem.Value.str (PySem.Str.ofString "cpy313.ftplib") 2231)), none, (some (PySem.Value.ref 0))])
noncomputable def o118_12 (P : Params) : Obj :=
  (PySem.Obj.mk (PySem.Value.type "tuple") none (PySem.Data.seq #[] 0) #[])
noncomputable def o119_12 (P : Params) : Obj :=
  (PySem.Obj.mk (PySem.Value.type "dict") none (PySem.Data.dict #[(PySem.DictEntry.mk (PySem.PyData.keyHash P (PySem.Str.ofString "__module__")) (PySem.Value.str (PySem.Str.ofString "__module__") 2276) (PySem.Value.str (PySem.Str.ofString "cpy313.ftplib") 2231)), (PySem.DictEntry.mk (PySem.PyData.keyHash P (PySem.Str.ofString "__firstlineno__")) (PySem.Value.str (PySem.Str.ofString "__firstlineno__") 2280) (PySem.Value.int 46 2279)), (PySem.DictEntry.mk (PySem.PyData.keyHash P (PySem.Str.ofString "__static_attributes__")) (PySem.Value.str (PySem.Str.ofString "__static_attributes__") 2281) (PySem.Value.ref 118)), (PySem.DictEntry.mk (PySem.PyData.keyHash P (PySem.Str.ofString "__doc__")) (PySem.Value.str (PySem.Str.ofString "__doc__") 2282) PySem.Value.none)] 2) #[])
noncomputable def o120_12 (P : Params) : Obj :=
  (PySem.Obj.mk (PySem.Value.type "type") none (PySem.Data.cls (PySem.ClassData.mk (PySem.Str.ofString "error_proto") [(PySem.Value.ref 95)] [(PySem.Value.ref 120), (PySem.Value.ref 95), (PySem.Value.type "Exception"), (PySem.Value.type "BaseException"), (PySem.Value.type "object")] 119 (PySem.Str.ofString "error_proto") true [] [] false none false)) #[(some (PySem.Value.ref 111)), none, (some (PySem.Value.str (PySem.Str.ofString "error_proto") 2269)), (some (PySem.Value.str (PySem.Str.ofString "error_proto") 2277)), (some (PySem.Value.builtin "Exception.__new__")), (some (PySem.Value.bool true))])
noncomputable def o121_12 (P : Params) : Obj :=
  (PySem.Obj.mk (PySem.Value.type "super") none (PySem.Data.fields #[(PySem.Value.ref 120), (PySem.Value.ref 120), (PySem.Value.ref 120)]) #[])
noncomputable def o122_12 (P : Params) : Obj :=
  (PySem.Obj.mk (PySem.Value.type "builtin_function_or_method") none (PySem.Data.fields #[(PySem.Value.builtin "object.__init_subclass__"), (PySem.Value.ref 120)]) #[])
noncomputable def o3_13 (P : Params) : Obj :=
  (PySem.Obj.mk (PySem.Value.type "dict") none (PySem.Data.dict #[(PySem.DictEntry.mk (PySem.PyData.keyHash P (PySem.Str.ofString "__name__")) (PySem.Value.str (PySem.Str.ofString "__name__") 165) (PySem.Value.str (PySem.Str.ofString "cpy313.ftplib") 2231)), (PySem.DictEntry.mk (PySem.PyData.keyHash P (PySem.Str.ofString "__doc__")) (PySem.Value.str (PySem.Str.ofString "__doc__") 166) PySem.Value.none), (PySem.DictEntry.mk (PySem.PyData.keyHash P (PySem.Str.ofString "__package__")) (PySem.Value.str (PySem.Str.ofString "__package__") 167) PySem.Value.none), (PySem.DictEntry.mk (PySem.PyData.keyHash P (PySem.Str.ofString "__loader__")) (PySem.Value.str (PySem.Str.ofString "__loader__") 168) (PySem.Value.builtin "__main__.__loader__#opaque")), (PySem.DictEntry.mk (PySem.PyData.keyHash P (PySem.Str.ofString "__spec__")) (PySem.Value.str (PySem.Str.ofString "__spec__") 169) PySem.Value.none), (PySem.DictEntry.mk (PySem.PyData.keyHash P (PySem.Str.ofString "__annotations__")) (PySem.Value.str (PySem.Str.ofString "__annotations__") 170) (PySem.Value.ref 6)), (PySem.DictEntry.mk (PySem.PyData.keyHash P (PySem.Str.ofString "__builtins__")) (PySem.Value.str (PySem.Str.ofString "__builtins__") 171) (PySem.Value.ref 4)), (PySem.DictEntry.mk (PySem.PyData.keyHash P (PySem.Str.ofString "__file__")) (PySem.Value.str (PySem.Str.ofString "__file__") 173) (PySem.Value.str (PySem.Str.ofString "/claim/cut.py") 172)), (PySem.DictEntry.mk (PySem.PyData.keyHash P (PySem.Str.ofString "__cached__")) (PySem.Value.str (PySem.Str.ofString "__cached__") 174) PySem.Value.none), (PySem.DictEntry.mk (PySem.PyData.keyHash P (PySem.Str.ofString "b1_set")) (PySem.Value.str (PySem.Str.ofString "b1_set") 248) (PySem.Value.ref 22)), (PySem.DictEntry.mk (PySem.PyData.keyHash P (PySem.Str.ofString "in_table_b1")) (PySem.Value.str (PySem.Str.ofString "in_table_b1") 255) (PySem.Value.ref 32)), (PySem.DictEntry.mk (PySem.PyData.keyHash P (PySem.Str.ofString "b3_exceptions")) (PySem.Value.str (PySem.Str.ofString "b3_exceptions") 2206) (PySem.Value.ref 33)), (PySem.DictEntry.mk (PySem.PyData.keyHash P (PySem.Str.ofString "map_table_b3")) (PySem.Value.str (PySem.Str.ofString "map_table_b3") 2214) (PySem.Value.ref 78)), (PySem.DictEntry.mk (PySem.PyData.keyHash P (PySem.Str.ofString "ELLIPSIS_MARKER")) (PySem.Value.str (PySem.Str.ofString "ELLIPSIS_MARKER") 2218) (PySem.Value.str (PySem.Str.ofString "...") 2217)), (PySem.DictEntry.mk (PySem.PyData.keyHash P (PySem.Str.ofString "_ellipsis_match")) (PySem.Value.str (PySem.Str.ofString "_ellipsis_match") 2230) (PySem.Value.ref 85)), (PySem.DictEntry.mk (PySem.PyData.keyHash P (PySem.Str.ofString "Error")) (PySem.Value.str (PySem.Str.ofString "Error") 2252) (PySem.Value.ref 95)), (PySem.DictEntry.mk (PySem.PyData.keyHash P (PySem.Str.ofString "error_reply")) (PySem.Value.str (PySem.Str.ofString "error_reply") 2268) (PySem.Value.ref 108)), (PySem.DictEntry.mk (PySem.PyData.keyHash P (PySem.Str.ofString "error_proto")) (PySem.Value.str (PySem.Str.ofString "error_proto") 2284) (PySem.Value.ref 120)), (PySem.DictEntry.mk (PySem.PyData.keyHash P (PySem.Str.ofString "parse229")) (PySem.Value.str (PySem.Str.ofString "parse229") 2297) (PySem.Value.ref 129))] 19) #[])
noncomputable def o12_13 (P : Params) : Obj :=
  (PySem.Obj.mk PySem.Value.none none (PySem.Data.fields #[(PySem.Value.int 3 0), (PySem.Value.int 0 0), (PySem.Value.ref 31), (PySem.Value.int 6 0), (PySem.Value.int 0 0), (PySem.Value.ref 77), (PySem.Value.int 13 0), (PySem.Value.int 0 0), (PySem.Value.ref 84), (PySem.Value.int 42 0), (PySem.Value.int 0 0), (PySem.Value.ref 91), (PySem.Value.int 44 0), (PySem.Value.int 0 0), (PySem.Value.ref 104), (PySem.Value.int 46 0), (PySem.Value.int 0 0), (PySem.Value.ref 116), (PySem.Value.int 48 0), (PySem.Value.int 0 0), (PySem.Value.ref 128)]) #[])
noncomputable def o123_13 (P : Params) : Obj :=
  (PySem.Obj.mk (PySem.Value.type "tuple") none (PySem.Data.seq #[] 0) #[])
noncomputable def o124_13 (P : Params) : Obj :=
  (PySem.Obj.mk PySem.Value.none none (PySem.Data.fields #[]) #[])
noncomputable def o125_13 (P : Params) : Obj :=
  (PySem.Obj.mk (PySem.Value.type "tuple") none (PySem.Data.seq #[(PySem.Value.str (PySem.Str.ofString "resp") 2288), (PySem.Value.str (PySem.Str.ofString "peer") 2289), (PySem.Value.str (PySem.Str.ofString "left") 2290), (PySem.Value.str (PySem.Str.ofString "right") 2291), (PySem.Value.str (PySem.Str.ofString "parts") 2292), (PySem.Value.str (PySem.Str.ofString "host") 2293), (PySem.Value.str (PySem.Str.ofString "port") 2294)] 0) #[])
noncomputable def o126_13 (P : Params) : Obj :=
  (PySem.Obj.mk (PySem.Value.type "tuple") none (PySem.Data.seq #[] 0) #[])
noncomputable def o127_13 (P : Params) : Obj :=
  (PySem.Obj.mk PySem.Value.none none (PySem.Data.func (PySem.FuncData.mk (PySem.Str.ofString "parse229") (PySem.Str.ofString "parse229") p12.1 (PySem.FuncBody.stmts b12.1) s12.1 0 [] PySem.Value.none PySem.Value.none PySem.Value.none PySem.Value.none none PySem.Value.none PySem.Value.none 0)) #[])
noncomputable def o128_13 (P : Params) : Obj :=
  (PySem.Obj.mk (PySem.Value.type "code") none (PySem.Data.fields #[(PySem.Value.str (PySem.Str.ofString "parse229") 2285), (PySem.Value.str (PySem.Str.ofString "parse229") 2286), (PySem.Value.str (PySem.Str.ofString "/claim/cut.py") 2287), (PySem.Value.int 48 0), (PySem.Value.int 2 0), (PySem.Value.int 0 0), (PySem.Value.int 0 0), (PySem.Value.int 3 0), (PySem.Value.ref 123), (PySem.Value.bool true), (PySem.Value.int 181 0), (PySem.Value.ref 124), PySem.Value.none, (PySem.Value.ref 125), (PySem.Value.ref 126), (PySem.Value.ref 127), (PySem.Value.int 2295 0), (PySem.Value.int 48 0), (PySem.Value.str (PySem.Str.ofString "/claim/cut.py") 2296)]) #[])
noncomputable def o129_13 (P : Params) : Obj :=
  (PySem.Obj.mk (PySem.Value.type "function") none (PySem.Data.func (PySem.FuncData.mk (PySem.Str.ofString "parse229") (PySem.Str.ofString "parse229") p12.1 (PySem.FuncBody.stmts b12.1) s12.1 3 [] PySem.Value.none PySem.Value.none PySem.Value.none (PySem.Value.str (PySem.Str.ofString "cpy313.ftplib") 2231) none (PySem.Value.ref 128) PySem.Value.none 0)) #[])
noncomputable def o3_14 (P : Params) : Obj :=
  (PySem.Obj.mk (PySem.Value.type "dict") none (PySem.Data.dict #[(PySem.DictEntry.mk (PySem.PyData.keyHash P (PySem.Str.ofString "__name__")) (PySem.Value.str (PySem.Str.ofString "__name__") 165) (PySem.Value.str (PySem.Str.ofString "cpy313.ftplib") 2231)), (PySem.DictEntry.mk (PySem.PyData.keyHash P (PySem.Str.ofString "__doc__")) (PySem.Value.str (PySem.Str.ofString "__doc__") 166) PySem.Value.none), (PySem.DictEntry.mk (PySem.PyData.keyHash P (PySem.Str.ofString "__package__")) (PySem.Value.str (PySem.Str.ofString "__package__") 167) PySem.Value.none), (PySem.DictEntry.mk (PySem.PyData.keyHash P (PySem.Str.ofString "__loader__")) (PySem.Value.str (PySem.Str.ofString "__loader__") 168) (PySem.Value.builtin "__main__.__loader__#opaque")), (PySem.DictEntry.mk (PySem.PyData.keyHash P (PySem.Str.ofString "__spec__")) (PySem.Value.str (PySem.Str.ofString "__spec__") 169) PySem.Value.none), (PySem.DictEntry.mk (PySem.PyData.keyHash P (PySem.Str.ofString "__annotations__")) (PySem.Value.str (PySem.Str.ofString "__annotations__") 170) (PySem.Value.ref 6)), (PySem.DictEntry.mk (PySem.PyData.keyHash P (PySem.Str.ofString "__builtins__")) (PySem.Value.str (PySem.Str.ofString "__builtins__") 171) (PySem.Value.ref 4)), (PySem.DictEntry.mk (PySem.PyData.keyHash P (PySem.Str.ofString "__file__")) (PySem.Value.str (PySem.Str.ofString "__file__") 173) (PySem.Value.str (PySem.Str.ofString "/claim/cut.py") 172)), (PySem.DictEntry.mk (PySem.PyData.keyHash P (PySem.Str.ofString "__cached__")) (PySem.Value.str (PySem.Str.ofString "__cached__") 174) PySem.Value.none), (PySem.DictEntry.mk (PySem.PyData.keyHash P (PySem.Str.ofString "b1_set")) (PySem.Value.str (PySem.Str.ofString "b1_set") 248) (PySem.Value.ref 22)), (PySem.DictEntry.mk (PySem.PyData.keyHash P (PySem.Str.ofString "in_table_b1")) (PySem.Value.str (PySem.Str.ofString "in_table_b1") 255) (PySem.Value.ref 32)), (PySem.DictEntry.mk (PySem.PyData.keyHash P (PySem.Str.ofString "b3_exceptions")) (PySem.Value.str (PySem.Str.ofString "b3_exceptions") 2206) (PySem.Value.ref 33)), (PySem.DictEntry.mk (PySem.PyData.keyHash P (PySem.Str.ofString "map_table_b3")) (PySem.Value.str (PySem.Str.ofString "map_table_b3") 2214) (PySem.Value.ref 78)), (PySem.DictEntry.mk (PySem.PyData.keyHash P (PySem.Str.ofString "ELLIPSIS_MARKER")) (PySem.Value.str (PySem.Str.ofString "ELLIPSIS_MARKER") 2218) (PySem.Value.str (PySem.Str.ofString "...") 2217)), (PySem.DictEntry.mk (PySem.PyData.keyHash P (PySem.Str.ofString "_ellipsis_match")) (PySem.Value.str (PySem.Str.ofString "_ellipsis_match") 2230) (PySem.Value.ref 85)), (PySem.DictEntry.mk (PySem.PyData.keyHash P (PySem.Str.ofString "Error")) (PySem.Value.str (PySem.Str.ofString "Error") 2252) (PySem.Value.ref 95)), (PySem.DictEntry.mk (PySem.PyData.keyHash P (PySem.Str.ofString "error_reply")) (PySem.Value.str (PySem.Str.ofString "error_reply") 2268) (PySem.Value.ref 108)), (PySem.DictEntry.mk (PySem.PyData.keyHash P (PySem.Str.ofString "error_proto")) (PySem.Value.str (PySem.Str.ofString "error_proto") 2284) (PySem.Value.ref 120)), (PySem.DictEntry.mk (PySem.PyData.keyHash P (PySem.Str.ofString "parse229")) (PySem.Value.str (PySem.Str.ofString "parse229") 2297) (PySem.Value.ref 129)), (PySem.DictEntry.mk (PySem.PyData.keyHash P (PySem.Str.ofString "parse257")) (PySem.Value.str (PySem.Str.ofString "parse257") 2308) (PySem.Value.ref 136))] 20) #[])
noncomputable def o12_14 (P : Params) : Obj :=
  (PySem.Obj.mk PySem.Value.none none (PySem.Data.fields #[(PySem.Value.int 3 0), (PySem.Value.int 0 0), (PySem.Value.ref 31), (PySem.Value.int 6 0), (PySem.Value.int 0 0), (PySem.Value.ref 77), (PySem.Value.int 13 0), (PySem.Value.int 0 0), (PySem.Value.ref 84), (PySem.Value.int 42 0), (PySem.Value.int 0 0), (PySem.Value.ref 91), (PySem.Value.int 44 0), (PySem.Value.int 0 0), (PySem.Value.ref 104), (PySem.Value.int 46 0), (PySem.Value.int 0 0), (PySem.Value.ref 116), (PySem.Value.int 48 0), (PySem.Value.int 0 0), (PySem.Value.ref 128), (PySem.Value.int 65 0), (PySem.Value.int 0 0), (PySem.Value.ref 135)]) #[])
noncomputable def o130_14 (P : Params) : Obj :=
  (PySem.Obj.mk (PySem.Value.type "tuple") none (PySem.Data.seq #[] 0) #[])
noncomputable def o131_14 (P : Params) : Obj :=
  (PySem.Obj.mk PySem.Value.none none (PySem.Data.fields #[]) #[])
noncomputable def o132_14 (P : Params) : Obj :=
  (PySem.Obj.mk (PySem.Value.type "tuple") none (PySem.Data.seq #[(PySem.Value.str (PySem.Str.ofString "resp") 2301), (PySem.Value.str (PySem.Str.ofString "dirname") 2302), (PySem.Value.str (PySem.Str.ofString "i") 2303), (PySem.Value.str (PySem.Str.ofString "n") 2304), (PySem.Value.str (PySem.Str.ofString "c") 2305)] 0) #[])
noncomputable def o133_14 (P : Params) : Obj :=
  (PySem.Obj.mk (PySem.Value.type "tuple") none (PySem.Data.seq #[] 0) #[])
noncomputable def o134_14 (P : Params) : Obj :=
  (PySem.Obj.mk PySem.Value.none none (PySem.Data.func (PySem.FuncData.mk (PySem.Str.ofString "parse257") (PySem.Str.ofString "parse257") p13.1 (PySem.FuncBody.stmts b13.1) s13.1 0 [] PySem.Value.none PySem.Value.none PySem.Value.none PySem.Value.none none PySem.Value.none PySem.Value.none 0)) #[])
noncomputable def o135_14 (P : Params) : Obj :=
  (PySem.Obj.mk (PySem.Value.type "code") none (PySem.Data.fields #[(PySem.Value.str (PySem.Str.ofString "parse257") 2298), (PySem.Value.str (PySem.Str.ofString "parse257") 2299), (PySem.Value.str (PySem.Str.ofString "/claim/cut.py") 2300), (PySem.Value.int 65 0), (PySem.Value.int 1 0), (PySem.Value.int 0 0), (PySem.Value.int 0 0), (PySem.Value.int 3 0), (PySem.Value.ref 130), (PySem.Value.bool true), (PySem.Value.int 181 0), (PySem.Value.ref 131), PySem.Value.none, (PySem.Value.ref 132), (PySem.Value.ref 133), (PySem.Value.ref 134), (PySem.Value.int 2306 0), (PySem.Value.int 65 0), (PySem.Value.str (PySem.Str.ofString "/claim/cut.py") 2307)]) #[])
noncomputable def o136_14 (P : Params) : Obj :=
  (PySem.Obj.mk (PySem.Value.type "function") none (PySem.Data.func (PySem.FuncData.mk (PySem.Str.ofString "parse257") (PySem.Str.ofString "parse257") p13.1 (PySem.FuncBody.stmts b13.1) s13.1 3 [] PySem.Value.none PySem.Value.none PySem.Value.none (PySem.Value.str (PySem.Str.ofString "cpy313.ftplib") 2231) none (PySem.Value.ref 135) PySem.Value.none 0)) #[])
noncomputable def o3_15 (P : Params) : Obj :=
  (PySem.Obj.mk (PySem.Value.type "dict") none (PySem.Data.dict #[(PySem.DictEntry.mk (PySem.PyData.keyHash P (PySem.Str.ofString "__name__")) (PySem.Value.str (PySem.Str.ofString "__name__") 165) (PySem.Value.str (PySem.Str.ofString "cpy313.operator") 2309)), (PySem.DictEntry.mk (PySem.PyData.keyHash P (PySem.Str.ofString "__doc__")) (PySem.Value.str (PySem.Str.ofString "__doc__") 166) PySem.Value.none), (PySem.DictEntry.mk (PySem.PyData.keyHash P (PySem.Str.ofString "__package__")) (PySem.Value.str (PySem.Str.ofString "__package__") 167) PySem.Value.none), (PySem.DictEntry.mk (PySem.PyData.keyHash P (PySem.Str.ofString "__loader__")) (PySem.Value.str (PySem.Str.ofString "__loader__") 168) (PySem.Value.builtin "__main__.__loader__#opaque")), (PySem.DictEntry.mk (PySem.PyData.keyHash P (PySem.Str.ofString "__spec__")) (PySem.Value.str (PySem.Str.ofString "__spec__") 169) PySem.Value.none), (PySem.DictEntry.mk (PySem.PyData.keyHash P (PySem.Str.ofString "__annotations__")) (PySem.Value.str (PySem.Str.ofString "__annotations__") 170) (PySem.Value.ref 6)), (PySem.DictEntry.mk (PySem.PyData.keyHash P (PySem.Str.ofString "__builtins__")) (PySem.Value.str (PySem.Str.ofString "__builtins__") 171) (PySem.Value.ref 4)), (PySem.DictEntry.mk (PySem.PyData.keyHash P (PySem.Str.ofString "__file__")) (PySem.Value.str (PySem.Str.ofString "__file__") 173) (PySem.Value.str (PySem.Str.ofString "/claim/cut.py") 172)), (PySem.DictEntry.mk (PySem.PyData.keyHash P (PySem.Str.ofString "__cached__")) (PySem.Value.str (PySem.Str.ofString "__cached__") 174) PySem.Value.none), (PySem.DictEntry.mk (PySem.PyData.keyHash P (PySem.Str.ofString "b1_set")) (PySem.Value.str (PySem.Str.ofString "b1_set") 248) (PySem.Value.ref 22)), (PySem.DictEntry.mk (PySem.PyData.keyHash P (PySem.Str.ofString "in_table_b1")) (PySem.Value.str (PySem.Str.ofString "in_table_b1") 255) (PySem.Value.ref 32)), (PySem.DictEntry.mk (PySem.PyData.keyHash P (PySem.Str.ofString "b3_exceptions")) (PySem.Value.str (PySem.Str.ofString "b3_exceptions") 2206) (PySem.Value.ref 33)), (PySem.DictEntry.mk (PySem.PyData.keyHash P (PySem.Str.ofString "map_table_b3")) (PySem.Value.str (PySem.Str.ofString "map_table_b3") 2214) (PySem.Value.ref 78)), (PySem.DictEntry.mk (PySem.PyData.keyHash P (PySem.Str.ofString "ELLIPSIS_MARKER")) (PySem.Value.str (PySem.Str.ofString "ELLIPSIS_MARKER") 2218) (PySem.Value.str (PySem.Str.ofString "...") 2217)), (PySem.DictEntry.mk (PySem.PyData.keyHash P (PySem.Str.ofString "_ellipsis_match")) (PySem.Value.str (PySem.Str.ofString "_ellipsis_match") 2230) (PySem.Value.ref 85)), (PySem.DictEntry.mk (PySem.PyData.keyHash P (PySem.Str.ofString "Error")) (PySem.Value.str (PySem.Str.ofString "Error") 2252) (PySem.Value.ref 95)), (PySem.DictEntry.mk (PySem.PyData.keyHash P (PySem.Str.ofString "error_reply")) (PySem.Value.str (PySem.Str.ofString "error_reply") 2268) (PySem.Value.ref 108)), (PySem.DictEntry.mk (PySem.PyData.keyHash P (PySem.Str.ofString "error_proto")) (PySem.Value.str (PySem.Str.ofString "error_proto") 2284) (PySem.Value.ref 120)), (PySem.DictEntry.mk (PySem.PyData.keyHash P (PySem.Str.ofString "parse229")) (PySem.Value.str (PySem.Str.ofString "parse229") 2297) (PySem.Value.ref 129)), (PySem.DictEntry.mk (PySem.PyData.keyHash P (PySem.Str.ofString "parse257")) (PySem.Value.str (PySem.Str.ofString "parse257") 2308) (PySem.Value.ref 136))] 20) #[])
noncomputable def o3_16 (P : Params) : Obj :=
  (PySem.Obj.mk (PySem.Value.type "dict") none (PySem.Data.dict #[(PySem.DictEntry.mk (PySem.PyData.keyHash P (PySem.Str.ofString "__name__")) (PySem.Value.str (PySem.Str.ofString "__name__") 165) (PySem.Value.str (PySem.Str.ofString "cpy313.operator") 2309)), (PySem.DictEntry.mk (PySem.PyData.keyHash P (PySem.Str.ofString "__doc__")) (PySem.Value.str (PySem.Str.ofString "__doc__") 166) PySem.Value.none), (PySem.DictEntry.mk (PySem.PyData.keyHash P (PySem.Str.ofString "__package__")) (PySem.Value.str (PySem.Str.ofString "__package__") 167) PySem.Value.none), (PySem.DictEntry.mk (PySem.PyData.keyHash P (PySem.Str.ofString "__loader__")) (PySem.Value.str (PySem.Str.ofString "__loader__") 168) (PySem.Value.builtin "__main__.__loader__#opaque")), (PySem.DictEntry.mk (PySem.PyData.keyHash P (PySem.Str.ofString "__spec__")) (PySem.Value.str (PySem.Str.ofString "__spec__") 169) PySem.Value.none), (PySem.DictEntry.mk (PySem.PyData.keyHash P (PySem.Str.ofString "__annotations__")) (PySem.Value.str (PySem.Str.ofString "__annotations__") 170) (PySem.Value.ref 6)), (PySem.DictEntry.mk (PySem.PyData.keyHash P (PySem.Str.ofString "__builtins__")) (PySem.Value.str (PySem.Str.ofString "__builtins__") 171) (PySem.Value.ref 4)), (PySem.DictEntry.mk (PySem.PyData.keyHash P (PySem.Str.ofString "__file__")) (PySem.Value.str (PySem.Str.ofString "__file__") 173) (PySem.Value.str (PySem.Str.ofString "/claim/cut.py") 172)), (PySem.DictEntry.mk (PySem.PyData.keyHash P (PySem.Str.ofString "__cached__")) (PySem.Value.str (PySem.Str.ofString "__cached__") 174) PySem.Value.none), (PySem.DictEntry.mk (PySem.PyData.keyHash P (PySem.Str.ofString "b1_set")) (PySem.Value.str (PySem.Str.ofString "b1_set") 248) (PySem.Value.ref 22)), (PySem.DictEntry.mk (PySem.PyData.keyHash P (PySem.Str.ofString "in_table_b1")) (PySem.Value.str (PySem.Str.ofString "in_table_b1") 255) (PySem.Value.ref 32)), (PySem.DictEntry.mk (PySem.PyData.keyHash P (PySem.Str.ofString "b3_exceptions")) (PySem.Value.str (PySem.Str.ofString "b3_exceptions") 2206) (PySem.Value.ref 33)), (PySem.DictEntry.mk (PySem.PyData.keyHash P (PySem.Str.ofString "map_table_b3")) (PySem.Value.str (PySem.Str.ofString "map_table_b3") 2214) (PySem.Value.ref 78)), (PySem.DictEntry.mk (PySem.PyData.keyHash P (PySem.Str.ofString "ELLIPSIS_MARKER")) (PySem.Value.str (PySem.Str.ofString "ELLIPSIS_MARKER") 2218) (PySem.Value.str (PySem.Str.ofString "...") 2217)), (PySem.DictEntry.mk (PySem.PyData.keyHash P (PySem.Str.ofString "_ellipsis_match")) (PySem.Value.str (PySem.Str.ofString "_ellipsis_match") 2230) (PySem.Value.ref 85)), (PySem.DictEntry.mk (PySem.PyData.keyHash P (PySem.Str.ofString "Error")) (PySem.Value.str (PySem.Str.ofString "Error") 2252) (PySem.Value.ref 95)), (PySem.DictEntry.mk (PySem.PyData.keyHash P (PySem.Str.ofString "error_reply")) (PySem.Value.str (PySem.Str.ofString "error_reply") 2268) (PySem.Value.ref 108)), (PySem.DictEntry.mk (PySem.PyData.keyHash P (PySem.Str.ofString "error_proto")) (PySem.Value.str (PySem.Str.ofString "error_proto") 2284) (PySem.Value.ref 120)), (PySem.DictEntry.mk (PySem.PyData.keyHash P (PySem.Str.ofString "parse229")) (PySem.Value.str (PySem.Str.ofString "parse229") 2297) (PySem.Value.ref 129)), (PySem.DictEntry.mk (PySem.PyData.keyHash P (PySem.Str.ofString "parse257")) (PySem.Value.str (PySem.Str.ofString "parse257") 2308) (PySem.Value.ref 136)), (PySem.DictEntry.mk (PySem.PyData.keyHash P (PySem.Str.ofString "mod")) (PySem.Value.str (PySem.Str.ofString "mod") 2318) (PySem.Value.ref 143))] 21) #[])
noncomputable def o12_16 (P : Params) : Obj :=
  (PySem.Obj.mk PySem.Value.none none (PySem.Data.fields #[(PySem.Value.int 3 0), (PySem.Value.int 0 0), (PySem.Value.ref 31), (PySem.Value.int 6 0), (PySem.Value.int 0 0), (PySem.Value.ref 77), (PySem.Value.int 13 0), (PySem.Value.int 0 0), (PySem.Value.ref 84), (PySem.Value.int 42 0), (PySem.Value.int 0 0), (PySem.Value.ref 91), (PySem.Value.int 44 0), (PySem.Value.int 0 0), (PySem.Value.ref 104), (PySem.Value.int 46 0), (PySem.Value.int 0 0), (PySem.Value.ref 116), (PySem.Value.int 48 0), (PySem.Value.int 0 0), (PySem.Value.ref 128), (PySem.Value.int 65 0), (PySem.Value.int 0 0), (PySem.Value.ref 135), (PySem.Value.int 83 0), (PySem.Value.int 0 0), (PySem.Value.ref 142)]) #[])
noncomputable def o137_16 (P : Params) : Obj :=
  (PySem.Obj.mk (PySem.Value.type "tuple") none (PySem.Data.seq #[] 0) #[])
noncomputable def o138_16 (P : Params) : Obj :=
  (PySem.Obj.mk PySem.Value.none none (PySem.Data.fields #[]) #[])
noncomputable def o139_16 (P : Params) : Obj :=
  (PySem.Obj.mk (PySem.Value.type "tuple") none (PySem.Data.seq #[(PySem.Value.str (PySem.Str.ofString "a") 2314), (PySem.Value.str (PySem.Str.ofString "b") 2315)] 0) #[])
noncomputable def o140_16 (P : Params) : Obj :=
  (PySem.Obj.mk (PySem.Value.type "tuple") none (PySem.Data.seq #[] 0) #[])
noncomputable def o141_16 (P : Params) : Obj :=
  (PySem.Obj.mk PySem.Value.none none (PySem.Data.func (PySem.FuncData.mk (PySem.Str.ofString "mod") (PySem.Str.ofString "mod") p15.1 (PySem.FuncBody.stmts b15.1) s15.1 0 [] PySem.Value.none PySem.Value.none PySem.Value.none PySem.Value.none none PySem.Value.none PySem.Value.none 0)) #[])
noncomputable def o142_16 (P : Params) : Obj :=
  (PySem.Obj.mk (PySem.Value.type "code") none (PySem.Data.fields #[(PySem.Value.str (PySem.Str.ofString "mod") 2311), (PySem.Value.str (PySem.Str.ofString "mod") 2312), (PySem.Value.str (PySem.Str.ofString "/claim/cut.py") 2313), (PySem.Value.int 83 0), (PySem.Value.int 2 0), (PySem.Value.int 0 0), (PySem.Value.int 0 0), (PySem.Value.int 3 0), (PySem.Value.ref 137), (PySem.Value.bool true), (PySem.Value.int 181 0), (PySem.Value.ref 138), PySem.Value.none, (PySem.Value.ref 139), (PySem.Value.ref 140), (PySem.Value.ref 141), (PySem.Value.int 2316 0), (PySem.Value.int 83 0), (PySem.Value.str (PySem.Str.ofString "/claim/cut.py") 2317)]) #[])
noncomputable def o143_16 (P : Params) : Obj :=
  (PySem.Obj.mk (PySem.Value.type "function") none (PySem.Data.func (PySem.FuncData.mk (PySem.Str.ofString "mod") (PySem.Str.ofString "mod") p15.1 (PySem.FuncBody.stmts b15.1) s15.1 3 [] PySem.Value.none PySem.Value.none PySem.Value.none (PySem.Value.str (PySem.Str.ofString "cpy313.operator") 2309) none (PySem.Value.ref 142) PySem.Value.none 0)) #[])
noncomputable def o3_17 (P : Params) : Obj :=
  (PySem.Obj.mk (PySem.Value.type "dict") none (PySem.Data.dict #[(PySem.DictEntry.mk (PySem.PyData.keyHash P (PySem.Str.ofString "__name__")) (PySem.Value.str (PySem.Str.ofString "__name__") 165) (PySem.Value.str (PySem.Str.ofString "cpy313.operator") 2309)), (PySem.DictEntry.mk (PySem.PyData.keyHash P (PySem.Str.ofString "__doc__")) (PySem.Value.str (PySem.Str.ofString "__doc__") 166) PySem.Value.none), (PySem.DictEntry.mk (PySem.PyData.keyHash P (PySem.Str.ofString "__package__")) (PySem.Value.str (PySem.Str.ofString "__package__") 167) PySem.Value.none), (PySem.DictEntry.mk (PySem.PyData.keyHash P (PySem.Str.ofString "__loader__")) (PySem.Value.str (PySem.Str.ofString "__loader__") 168) (PySem.Value.builtin "__main__.__loader__#opaque")), (PySem.DictEntry.mk (PySem.PyData.keyHash P (PySem.Str.ofString "__spec__")) (PySem.Value.str (PySem.Str.ofString "__spec__") 169) PySem.Value.none), (PySem.DictEntry.mk (PySem.PyData.keyHash P (PySem.Str.ofString "__annotations__")) (PySem.Value.str (PySem.Str.ofString "__annotations__") 170) (PySem.Value.ref 6)), (PySem.DictEntry.mk (PySem.PyData.keyHash P (PySem.Str.ofString "__builtins__")) (PySem.Value.str (PySem.Str.ofString "__builtins__") 171) (PySem.Value.ref 4)), (PySem.DictEntry.mk (PySem.PyData.keyHash P (PySem.Str.ofString "__file__")) (PySem.Value.str (PySem.Str.ofString "__file__") 173) (PySem.Value.str (PySem.Str.ofString "/claim/cut.py") 172)), (PySem.DictEntry.mk (PySem.PyData.keyHash P (PySem.Str.ofString "__cached__")) (PySem.Value.str (PySem.Str.ofString "__cached__") 174) PySem.Value.none), (PySem.DictEntry.mk (PySem.PyData.keyHash P (PySem.Str.ofString "b1_set")) (PySem.Value.str (PySem.Str.ofString "b1_set") 248) (PySem.Value.ref 22)), (PySem.DictEntry.mk (PySem.PyData.keyHash P (PySem.Str.ofString "in_table_b1")) (PySem.Value.str (PySem.Str.ofString "in_table_b1") 255) (PySem.Value.ref 32)), (PySem.DictEntry.mk (PySem.PyData.keyHash P (PySem.Str.ofString "b3_exceptions")) (PySem.Value.str (PySem.Str.ofString "b3_exceptions") 2206) (PySem.Value.ref 33)), (PySem.DictEntry.mk (PySem.PyData.keyHash P (PySem.Str.ofString "map_table_b3")) (PySem.Value.str (PySem.Str.ofString "map_table_b3") 2214) (PySem.Value.ref 78)), (PySem.DictEntry.mk (PySem.PyData.keyHash P (PySem.Str.ofString "ELLIPSIS_MARKER")) (PySem.Value.str (PySem.Str.ofString "ELLIPSIS_MARKER") 2218) (PySem.Value.str (PySem.Str.ofString "...") 2217)), (PySem.DictEntry.mk (PySem.PyData.keyHash P (PySem.Str.ofString "_ellipsis_match")) (PySem.Value.str (PySem.Str.ofString "_ellipsis_match") 2230) (PySem.Value.ref 85)), (PySem.DictEntry.mk (PySem.PyData.keyHash P (PySem.Str.ofString "Error")) (PySem.Value.str (PySem.Str.ofString "Error") 2252) (PySem.Value.ref 95)), (PySem.DictEntry.mk (PySem.PyData.keyHash P (PySem.Str.ofString "error_reply")) (PySem.Value.str (PySem.Str.ofString "error_reply") 2268) (PySem.Value.ref 108)), (PySem.DictEntry.mk (PySem.PyData.keyHash P (PySem.Str.ofString "error_proto")) (PySem.Value.str (PySem.Str.ofString "error_proto") 2284) (PySem.Value.ref 120)), (PySem.DictEntry.mk (PySem.PyData.keyHash P (PySem.Str.ofString "parse229")) (PySem.Value.str (PySem.Str.ofString "parse229") 2297) (PySem.Value.ref 129)), (PySem.DictEntry.mk (PySem.PyData.keyHash P (PySem.Str.ofString "parse257")) (PySem.Value.str (PySem.Str.ofString "parse257") 2308) (PySem.Value.ref 136)), (PySem.DictEntry.mk (PySem.PyData.keyHash P (PySem.Str.ofString "mod")) (PySem.Value.str (PySem.Str.ofString "mod") 2318) (PySem.Value.ref 143)), (PySem.DictEntry.mk (PySem.PyData.keyHash P (PySem.Str.ofString "contains")) (PySem.Value.str (PySem.Str.ofString "contains") 2326) (PySem.Value.ref 150))] 22) #[])
noncomputable def o12_17 (P : Params) : Obj :=
  (PySem.Obj.mk PySem.Value.none none (PySem.Data.fields #[(PySem.Value.int 3 0), (PySem.Value.int 0 0), (PySem.Value.ref 31), (PySem.Value.int 6 0), (PySem.Value.int 0 0), (PySem.Value.ref 77), (PySem.Value.int 13 0), (PySem.Value.int 0 0), (PySem.Value.ref 84), (PySem.Value.int 42 0), (PySem.Value.int 0 0), (PySem.Value.ref 91), (PySem.Value.int 44 0), (PySem.Value.int 0 0), (PySem.Value.ref 104), (PySem.Value.int 46 0), (PySem.Value.int 0 0), (PySem.Value.ref 116), (PySem.Value.int 48 0), (PySem.Value.int 0 0), (PySem.Value.ref 128), (PySem.Value.int 65 0), (PySem.Value.int 0 0), (PySem.Value.ref 135), (PySem.Value.int 83 0), (PySem.Value.int 0 0), (PySem.Value.ref 142), (PySem.Value.int 85 0), (PySem.Value.int 0 0), (PySem.Value.ref 149)]) #[])
noncomputable def o144_17 (P : Params) : Obj :=
  (PySem.Obj.mk (PySem.Value.type "tuple") none (PySem.Data.seq #[] 0) #[])
noncomputable def o145_17 (P : Params) : Obj :=
  (PySem.Obj.mk PySem.Value.none none (PySem.Data.fields #[]) #[])
noncomputable def o146_17 (P : Params) : Obj :=
  (PySem.Obj.mk (PySem.Value.type "tuple") none (PySem.Data.seq #[(PySem.Value.str (PySem.Str.ofString "a") 2322), (PySem.Value.str (PySem.Str.ofString "b") 2323)] 0) #[])
noncomputable def o147_17 (P : Params) : Obj :=
  (PySem.Obj.mk (PySem.Value.type "tuple") none (PySem.Data.seq #[] 0) #[])
noncomputable def o148_17 (P : Params) : Obj :=
  (PySem.Obj.mk PySem.Value.none none (PySem.Data.func (PySem.FuncData.mk (PySem.Str.ofString "contains") (PySem.Str.ofString "contains") p16.1 (PySem.FuncBody.stmts b16.1) s16.1 0 [] PySem.Value.none PySem.Value.none PySem.Value.none PySem.Value.none none PySem.Value.none PySem.Value.none 0)) #[])
noncomputable def o149_17 (P : Params) : Obj :=
  (PySem.Obj.mk (PySem.Value.type "code") none (PySem.Data.fields #[(PySem.Value.str (PySem.Str.ofString "contains") 2319), (PySem.Value.str (PySem.Str.ofString "contains") 2320), (PySem.Value.str (PySem.Str.ofString "/claim/cut.py") 2321), (PySem.Value.int 85 0), (PySem.Value.int 2 0), (PySem.Value.int 0 0), (PySem.Value.int 0 0), (PySem.Value.int 3 0), (PySem.Value.ref 144), (PySem.Value.bool true), (PySem.Value.int 181 0), (PySem.Value.ref 145), PySem.Value.none, (PySem.Value.ref 146), (PySem.Value.ref 147), (PySem.Value.ref 148), (PySem.Value.int 2324 0), (PySem.Value.int 85 0), (PySem.Value.str (PySem.Str.ofString "/claim/cut.py") 2325)]) #[])
noncomputable def o150_17 (P : Params) : Obj :=
  (PySem.Obj.mk (PySem.Value.type "function") none (PySem.Data.func (PySem.FuncData.mk (PySem.Str.ofString "contains") (PySem.Str.ofString "contains") p16.1 (PySem.FuncBody.stmts b16.1) s16.1 3 [] PySem.Value.none PySem.Value.none PySem.Value.none (PySem.Value.str (PySem.Str.ofString "cpy313.operator") 2309) none (PySem.Value.ref 149) PySem.Value.none 0)) #[])
noncomputable def o3_18 (P : Params) : Obj :=
  (PySem.Obj.mk (PySem.Value.type "dict") none (PySem.Data.dict #[(PySem.DictEntry.mk (PySem.PyData.keyHash P (PySem.Str.ofString "__name__")) (PySem.Value.str (PySem.Str.ofString "__name__") 165) (PySem.Value.str (PySem.Str.ofString "cpy313.operator") 2309)), (PySem.DictEntry.mk (PySem.PyData.keyHash P (PySem.Str.ofString "__doc__")) (PySem.Value.str (PySem.Str.ofString "__doc__") 166) PySem.Value.none), (PySem.DictEntry.mk (PySem.PyData.keyHash P (PySem.Str.ofString "__package__")) (PySem.Value.str (PySem.Str.ofString "__package__") 167) PySem.Value.none), (PySem.DictEntry.mk (PySem.PyData.keyHash P (PySem.Str.ofString "__loader__")) (PySem.Value.str (PySem.Str.ofString "__loader__") 168) (PySem.Value.builtin "__main__.__loader__#opaque")), (PySem.DictEntry.mk (PySem.PyData.keyHash P (PySem.Str.ofString "__spec__")) (PySem.Value.str (PySem.Str.ofString "__spec__") 169) PySem.Value.none), (PySem.DictEntry.mk (PySem.PyData.keyHash P (PySem.Str.ofString "__annotations__")) (PySem.Value.str (PySem.Str.ofString "__annotations__") 170) (PySem.Value.ref 6)), (PySem.DictEntry.mk (PySem.PyData.keyHash P (PySem.Str.ofString "__builtins__")) (PySem.Value.str (PySem.Str.ofString "__builtins__") 171) (PySem.Value.ref 4)), (PySem.DictEntry.mk (PySem.PyData.keyHash P (PySem.Str.ofString "__file__")) (PySem.Value.str (PySem.Str.ofString "__file__") 173) (PySem.Value.str (PySem.Str.ofString "/claim/cut.py") 172)), (PySem.DictEntry.mk (PySem.PyData.keyHash P (PySem.Str.ofString "__cached__")) (PySem.Value.str (PySem.Str.ofString "__cached__") 174) PySem.Value.none), (PySem.DictEntry.mk (PySem.PyData.keyHash P (PySem.Str.ofString "b1_set")) (PySem.Value.str (PySem.Str.ofString "b1_set") 248) (PySem.Value.ref 22)), (PySem.DictEntry.mk (PySem.PyData.keyHash P (PySem.Str.ofString "in_table_b1")) (PySem.Value.str (PySem.Str.ofString "in_table_b1") 255) (PySem.Value.ref 32)), (PySem.DictEntry.mk (PySem.PyData.keyHash P (PySem.Str.ofString "b3_exceptions")) (PySem.Value.str (PySem.Str.ofString "b3_exceptions") 2206) (PySem.Value.ref 33)), (PySem.DictEntry.mk (PySem.PyData.keyHash P (PySem.Str.ofString "map_table_b3")) (PySem.Value.str (PySem.Str.ofString "map_table_b3") 2214) (PySem.Value.ref 78)), (PySem.DictEntry.mk (PySem.PyData.keyHash P (PySem.Str.ofString "ELLIPSIS_MARKER")) (PySem.Value.str (PySem.Str.ofString "ELLIPSIS_MARKER") 2218) (PySem.Value.str (PySem.Str.ofString "...") 2217)), (PySem.DictEntry.mk (PySem.PyData.keyHash P (PySem.Str.ofString "_ellipsis_match")) (PySem.Value.str (PySem.Str.ofString "_ellipsis_match") 2230) (PySem.Value.ref 85)), (PySem.DictEntry.mk (PySem.PyData.keyHash P (PySem.Str.ofString "Error")) (PySem.Value.str (PySem.Str.ofString "Error") 2252) (PySem.Value.ref 95)), (PySem.DictEntry.mk (PySem.PyData.keyHash P (PySem.Str.ofString "error_reply")) (PySem.Value.str (PySem.Str.ofString "error_reply") 2268) (PySem.Value.ref 108)), (PySem.DictEntry.mk (PySem.PyData.keyHash P (PySem.Str.ofString "error_proto")) (PySem.Value.str (PySem.Str.ofString "error_proto") 2284) (PySem.Value.ref 120)), (PySem.DictEntry.mk (PySem.PyData.keyHash P (PySem.Str.ofString "parse229")) (PySem.Value.str (PySem.Str.ofString "parse229") 2297) (PySem.Value.ref 129)), (PySem.DictEntry.mk (PySem.PyData.keyHash P (PySem.Str.ofString "parse257")) (PySem.Value.str (PySem.Str.ofString "parse257") 2308) (PySem.Value.ref 136)), (PySem.DictEntry.mk (PySem.PyData.keyHash P (PySem.Str.ofString "mod")) (PySem.Value.str (PySem.Str.ofString "mod") 2318) (PySem.Value.ref 143)), (PySem.DictEntry.mk (PySem.PyData.keyHash P (PySem.Str.ofString "contains")) (PySem.Value.str (PySem.Str.ofString "contains") 2326) (PySem.Value.ref 150)), (PySem.DictEntry.mk (PySem.PyData.keyHash P (PySem.Str.ofString "delitem")) (PySem.Value.str (PySem.Str.ofString "delitem") 2334) (PySem.Value.ref 157))] 23) #[])
noncomputable def o12_18 (P : Params) : Obj :=
  (PySem.Obj.mk PySem.Value.none none (PySem.Data.fields #[(PySem.Value.int 3 0), (PySem.Value.int 0 0), (PySem.Value.ref 31), (PySem.Value.int 6 0), (PySem.Value.int 0 0), (PySem.Value.ref 77), (PySem.Value.int 13 0), (PySem.Value.int 0 0), (PySem.Value.ref 84), (PySem.Value.int 42 0), (PySem.Value.int 0 0), (PySem.Value.ref 91), (PySem.Value.int 44 0), (PySem.Value.int 0 0), (PySem.Value.ref 104), (PySem.Value.int 46 0), (PySem.Value.int 0 0), (PySem.Value.ref 116), (PySem.Value.int 48 0), (PySem.Value.int 0 0), (PySem.Value.ref 128), (PySem.Value.int 65 0), (PySem.Value.int 0 0), (PySem.Value.ref 135), (PySem.Value.int 83 0), (PySem.Value.int 0 0), (PySem.Value.ref 142), (PySem.Value.int 85 0), (PySem.Value.int 0 0), (PySem.Value.ref 149), (PySem.Value.int 87 0), (PySem.Value.int 0 0), (PySem.Value.ref 156)]) #[])
noncomputable def o151_18 (P : Params) : Obj :=
  (PySem.Obj.mk (PySem.Value.type "tuple") none (PySem.Data.seq #[] 0) #[])
noncomputable def o152_18 (P : Params) : Obj :=
  (PySem.Obj.mk PySem.Value.none none (PySem.Data.fields #[]) #[])
noncomputable def o153_18 (P : Params) : Obj :=
  (PySem.Obj.mk (PySem.Value.type "tuple") none (PySem.Data.seq #[(PySem.Value.str (PySem.Str.ofString "a") 2330), (PySem.Value.str (PySem.Str.ofString "b") 2331)] 0) #[])
noncomputable def o154_18 (P : Params) : Obj :=
  (PySem.Obj.mk (PySem.Value.type "tuple") none (PySem.Data.seq #[] 0) #[])
noncomputable def o155_18 (P : Params) : Obj :=
  (PySem.Obj.mk PySem.Value.none none (PySem.Data.func (PySem.FuncData.mk (PySem.Str.ofString "delitem") (PySem.Str.ofString "delitem") p17.1 (PySem.FuncBody.stmts b17.1) s17.1 0 [] PySem.Value.none PySem.Value.none PySem.Value.none PySem.Value.none none PySem.Value.none PySem.Value.none 0)) #[])
noncomputable def o156_18 (P : Params) : Obj :=
  (PySem.Obj.mk (PySem.Value.type "code") none (PySem.Data.fields #[(PySem.Value.str (PySem.Str.ofString "delitem") 2327), (PySem.Value.str (PySem.Str.ofString "delitem") 2328), (PySem.Value.str (PySem.Str.ofString "/claim/cut.py") 2329), (PySem.Value.int 87 0), (PySem.Value.int 2 0), (PySem.Value.int 0 0), (PySem.Value.int 0 0), (PySem.Value.int 3 0), (PySem.Value.ref 151), (PySem.Value.bool true), (PySem.Value.int 181 0), (PySem.Value.ref 152), PySem.Value.none, (PySem.Value.ref 153), (PySem.Value.ref 154), (PySem.Value.ref 155), (PySem.Value.int 2332 0), (PySem.Value.int 87 0), (PySem.Value.str (PySem.Str.ofString "/claim/cut.py") 2333)]) #[])
noncomputable def o157_18 (P : Params) : Obj :=
  (PySem.Obj.mk (PySem.Value.type "function") none (PySem.Data.func (PySem.FuncData.mk (PySem.Str.ofString "delitem") (PySem.Str.ofString "delitem") p17.1 (PySem.FuncBody.stmts b17.1) s17.1 3 [] PySem.Value.none PySem.Value.none PySem.Value.none (PySem.Value.str (PySem.Str.ofString "cpy313.operator") 2309) none (PySem.Value.ref 156) PySem.Value.none 0)) #[])
noncomputable def o3_19 (P : Params) : Obj :=
  (PySem.Obj.mk (PySem.Value.type "dict") none (PySem.Data.dict #[(PySem.DictEntry.mk (PySem.PyData.keyHash P (PySem.Str.ofString "__name__")) (PySem.Value.str (PySem.Str.ofString "__name__") 165) (PySem.Value.str (PySem.Str.ofString "cpy313.operator") 2309)), (PySem.DictEntry.mk (PySem.PyData.keyHash P (PySem.Str.ofString "__doc__")) (PySem.Value.str (PySem.Str.ofString "__doc__") 166) PySem.Value.none), (PySem.DictEntry.mk (PySem.PyData.keyHash P (PySem.Str.ofString "__package__")) (PySem.Value.str (PySem.Str.ofString "__package__") 167) PySem.Value.none), (PySem.DictEntry.mk (PySem.PyData.keyHash P (PySem.Str.ofString "__loader__")) (PySem.Value.str (PySem.Str.ofString "__loader__") 168) (PySem.Value.builtin "__main__.__loader__#opaque")), (PySem.DictEntry.mk (PySem.PyData.keyHash P (PySem.Str.ofString "__spec__")) (PySem.Value.str (PySem.Str.ofString "__spec__") 169) PySem.Value.none), (PySem.DictEntry.mk (PySem.PyData.keyHash P (PySem.Str.ofString "__annotations__")) (PySem.Value.str (PySem.Str.ofString "__annotations__") 170) (PySem.Value.ref 6)), (PySem.DictEntry.mk (PySem.PyData.keyHash P (PySem.Str.ofString "__builtins__")) (PySem.Value.str (PySem.Str.ofString "__builtins__") 171) (PySem.Value.ref 4)), (PySem.DictEntry.mk (PySem.PyData.keyHash P (PySem.Str.ofString "__file__")) (PySem.Value.str (PySem.Str.ofString "__file__") 173) (PySem.Value.str (PySem.Str.ofString "/claim/cut.py") 172)), (PySem.DictEntry.mk (PySem.PyData.keyHash P (PySem.Str.ofString "__cached__")) (PySem.Value.str (PySem.Str.ofString "__cached__") 174) PySem.Value.none), (PySem.DictEntry.mk (PySem.PyData.keyHash P (PySem.Str.ofString "b1_set")) (PySem.Value.str (PySem.Str.ofString "b1_set") 248) (PySem.Value.ref 22)), (PySem.DictEntry.mk (PySem.PyData.keyHash P (PySem.Str.ofString "in_table_b1")) (PySem.Value.str (PySem.Str.ofString "in_table_b1") 255) (PySem.Value.ref 32)), (PySem.DictEntry.mk (PySem.PyData.keyHash P (PySem.Str.ofString "b3_exceptions")) (PySem.Value.str (PySem.Str.ofString "b3_exceptions") 2206) (PySem.Value.ref 33)), (PySem.DictEntry.mk (PySem.PyData.keyHash P (PySem.Str.ofString "map_table_b3")) (PySem.Value.str (PySem.Str.ofString "map_table_b3") 2214) (PySem.Value.ref 78)), (PySem.DictEntry.mk (PySem.PyData.keyHash P (PySem.Str.ofString "ELLIPSIS_MARKER")) (PySem.Value.str (PySem.Str.ofString "ELLIPSIS_MARKER") 2218) (PySem.Value.str (PySem.Str.ofString "...") 2217)), (PySem.DictEntry.mk (PySem.PyData.keyHash P (PySem.Str.ofString "_ellipsis_match")) (PySem.Value.str (PySem.Str.ofString "_ellipsis_match") 2230) (PySem.Value.ref 85)), (PySem.DictEntry.mk (PySem.PyData.keyHash P (PySem.Str.ofString "Error")) (PySem.Value.str (PySem.Str.ofString "Error") 2252) (PySem.Value.ref 95)), (PySem.DictEntry.mk (PySem.PyData.keyHash P (PySem.Str.ofString "error_reply")) (PySem.Value.str (PySem.Str.ofString "error_reply") 2268) (PySem.Value.ref 108)), (PySem.DictEntry.mk (PySem.PyData.keyHash P (PySem.Str.ofString "error_proto")) (PySem.Value.str (PySem.Str.ofString "error_proto") 2284) (PySem.Value.ref 120)), (PySem.DictEntry.mk (PySem.PyData.keyHash P (PySem.Str.ofString "parse229")) (PySem.Value.str (PySem.Str.ofString "parse229") 2297) (PySem.Value.ref 129)), (PySem.DictEntry.mk (PySem.PyData.keyHash P (PySem.Str.ofString "parse257")) (PySem.Value.str (PySem.Str.ofString "parse257") 2308) (PySem.Value.ref 136)), (PySem.DictEntry.mk (PySem.PyData.keyHash P (PySem.Str.ofString "mod")) (PySem.Value.str (PySem.Str.ofString "mod") 2318) (PySem.Value.ref 143)), (PySem.DictEntry.mk (PySem.PyData.keyHash P (PySem.Str.ofString "contains")) (PySem.Value.str (PySem.Str.ofString "contains") 2326) (PySem.Value.ref 150)), (PySem.DictEntry.mk (PySem.PyData.keyHash P (PySem.Str.ofString "delitem")) (PySem.Value.str (PySem.Str.ofString "delitem") 2334) (PySem.Value.ref 157)), (PySem.DictEntry.mk (PySem.PyData.keyHash P (PySem.Str.ofString "getitem")) (PySem.Value.str (PySem.Str.ofString "getitem") 2342) (PySem.Value.ref 164))] 24) #[])
noncomputable def o12_19 (P : Params) : Obj :=
  (PySem.Obj.mk PySem.Value.none none (PySem.Data.fields #[(PySem.Value.int 3 0), (PySem.Value.int 0 0), (PySem.Value.ref 31), (PySem.Value.int 6 0), (PySem.Value.int 0 0), (PySem.Value.ref 77), (PySem.Value.int 13 0), (PySem.Value.int 0 0), (PySem.Value.ref 84), (PySem.Value.int 42 0), (PySem.Value.int 0 0), (PySem.Value.ref 91), (PySem.Value.int 44 0), (PySem.Value.int 0 0), (PySem.Value.ref 104), (PySem.Value.int 46 0), (PySem.Value.int 0 0), (PySem.Value.ref 116), (PySem.Value.int 48 0), (PySem.Value.int 0 0), (PySem.Value.ref 128), (PySem.Value.int 65 0), (PySem.Value.int 0 0), (PySem.Value.ref 135), (PySem.Value.int 83 0), (PySem.Value.int 0 0), (PySem.Value.ref 142), (PySem.Value.int 85 0), (PySem.Value.int 0 0), (PySem.Value.ref 149), (PySem.Value.int 87 0), (PySem.Value.int 0 0), (PySem.Value.ref 156), (PySem.Value.int 89 0), (PySem.Value.int 0 0), (PySem.Value.ref 163)]) #[])
noncomputable def o158_19 (P : Params) : Obj :=
  (PySem.Obj.mk (PySem.Value.type "tuple") none (PySem.Data.seq #[] 0) #[])
noncomputable def o159_19 (P : Params) : Obj :=
  (PySem.Obj.mk PySem.Value.none none (PySem.Data.fields #[]) #[])
noncomputable def o160_19 (P : Params) : Obj :=
  (PySem.Obj.mk (PySem.Value.type "tuple") none (PySem.Data.seq #[(PySem.Value.str (PySem.Str.ofString "a") 2338), (PySem.Value.str (PySem.Str.ofString "b") 2339)] 0) #[])
noncomputable def o161_19 (P : Params) : Obj :=
  (PySem.Obj.mk (PySem.Value.type "tuple") none (PySem.Data.seq #[] 0) #[])
noncomputable def o162_19 (P : Params) : Obj :=
  (PySem.Obj.mk PySem.Value.none none (PySem.Data.func (PySem.FuncData.mk (PySem.Str.ofString "getitem") (PySem.Str.ofString "getitem") p18.1 (PySem.FuncBody.stmts b18.1) s18.1 0 [] PySem.Value.none PySem.Value.none PySem.Value.none PySem.Value.none none PySem.Value.none PySem.Value.none 0)) #[])
noncomputable def o163_19 (P : Params) : Obj :=
  (PySem.Obj.mk (PySem.Value.type "code") none (PySem.Data.fields #[(PySem.Value.str (PySem.Str.ofString "getitem") 2335), (PySem.Value.str (PySem.Str.ofString "getitem") 2336), (PySem.Value.str (PySem.Str.ofString "/claim/cut.py") 2337), (PySem.Value.int 89 0), (PySem.Value.int 2 0), (PySem.Value.int 0 0), (PySem.Value.int 0 0), (PySem.Value.int 3 0), (PySem.Value.ref 158), (PySem.Value.bool true), (PySem.Value.int 181 0), (PySem.Value.ref 159), PySem.Value.none, (PySem.Value.ref 160), (PySem.Value.ref 161), (PySem.Value.ref 162), (PySem.Value.int 2340 0), (PySem.Value.int 89 0), (PySem.Value.str (PySem.Str.ofString "/claim/cut.py") 2341)]) #[])
noncomputable def o164_19 (P : Params) : Obj :=
  (PySem.Obj.mk (PySem.Value.type "function") none (PySem.Data.func (PySem.FuncData.mk (PySem.Str.ofString "getitem") (PySem.Str.ofString "getitem") p18.1 (PySem.FuncBody.stmts b18.1) s18.1 3 [] PySem.Value.none PySem.Value.none PySem.Value.none (PySem.Value.str (PySem.Str.ofString "cpy313.operator") 2309) none (PySem.Value.ref 163) PySem.Value.none 0)) #[])
noncomputable def o3_20 (P : Params) : Obj :=
  (PySem.Obj.mk (PySem.Value.type "dict") none (PySem.Data.dict #[(PySem.DictEntry.mk (PySem.PyData.keyHash P (PySem.Str.ofString "__name__")) (PySem.Value.str (PySem.Str.ofString "__name__") 165) (PySem.Value.str (PySem.Str.ofString "cpy313.operator") 2309)), (PySem.DictEntry.mk (PySem.PyData.keyHash P (PySem.Str.ofString "__doc__")) (PySem.Value.str (PySem.Str.ofString "__doc__") 166) PySem.Value.none), (PySem.DictEntry.mk (PySem.PyData.keyHash P (PySem.Str.ofString "__package__")) (PySem.Value.str (PySem.Str.ofString "__package__") 167) PySem.Value.none), (PySem.DictEntry.mk (PySem.PyData.keyHash P (PySem.Str.ofString "__loader__")) (PySem.Value.str (PySem.Str.ofString "__loader__") 168) (PySem.Value.builtin "__main__.__loader__#opaque")), (PySem.DictEntry.mk (PySem.PyData.keyHash P (PySem.Str.ofString "__spec__")) (PySem.Value.str (PySem.Str.ofString "__spec__") 169) PySem.Value.none), (PySem.DictEntry.mk (PySem.PyData.keyHash P (PySem.Str.ofString "__annotations__")) (PySem.Value.str (PySem.Str.ofString "__annotations__") 170) (PySem.Value.ref 6)), (PySem.DictEntry.mk (PySem.PyData.keyHash P (PySem.Str.ofString "__builtins__")) (PySem.Value.str (PySem.Str.ofString "__builtins__") 171) (PySem.Value.ref 4)), (PySem.DictEntry.mk (PySem.PyData.keyHash P (PySem.Str.ofString "__file__")) (PySem.Value.str (PySem.Str.ofString "__file__") 173) (PySem.Value.str (PySem.Str.ofString "/claim/cut.py") 172)), (PySem.DictEntry.mk (PySem.PyData.keyHash P (PySem.Str.ofString "__cached__")) (PySem.Value.str (PySem.Str.ofString "__cached__") 174) PySem.Value.none), (PySem.DictEntry.mk (PySem.PyData.keyHash P (PySem.Str.ofString "b1_set")) (PySem.Value.str (PySem.Str.ofString "b1_set") 248) (PySem.Value.ref 22)), (PySem.DictEntry.mk (PySem.PyData.keyHash P (PySem.Str.ofString "in_table_b1")) (PySem.Value.str (PySem.Str.ofString "in_table_b1") 255) (PySem.Value.ref 32)), (PySem.DictEntry.mk (PySem.PyData.keyHash P (PySem.Str.ofString "b3_exceptions")) (PySem.Value.str (PySem.Str.ofString "b3_exceptions") 2206) (PySem.Value.ref 33)), (PySem.DictEntry.mk (PySem.PyData.keyHash P (PySem.Str.ofString "map_table_b3")) (PySem.Value.str (PySem.Str.ofString "map_table_b3") 2214) (PySem.Value.ref 78)), (PySem.DictEntry.mk (PySem.PyData.keyHash P (PySem.Str.ofString "ELLIPSIS_MARKER")) (PySem.Value.str (PySem.Str.ofString "ELLIPSIS_MARKER") 2218) (PySem.Value.str (PySem.Str.ofString "...") 2217)), (PySem.DictEntry.mk (PySem.PyData.keyHash P (PySem.Str.ofString "_ellipsis_match")) (PySem.Value.str (PySem.Str.ofString "_ellipsis_match") 2230) (PySem.Value.ref 85)), (PySem.DictEntry.mk (PySem.PyData.keyHash P (PySem.Str.ofString "Error")) (PySem.Value.str (PySem.Str.ofString "Error") 2252) (PySem.Value.ref 95)), (PySem.DictEntry.mk (PySem.PyData.keyHash P (PySem.Str.ofString "error_reply")) (PySem.Value.str (PySem.Str.ofString "error_reply") 2268) (PySem.Value.ref 108)), (PySem.DictEntry.mk (PySem.PyData.keyHash P (PySem.Str.ofString "error_proto")) (PySem.Value.str (PySem.Str.ofString "error_proto") 2284) (PySem.Value.ref 120)), (PySem.DictEntry.mk (PySem.PyData.keyHash P (PySem.Str.ofString "parse229")) (PySem.Value.str (PySem.Str.ofString "parse229") 2297) (PySem.Value.ref 129)), (PySem.DictEntry.mk (PySem.PyData.keyHash P (PySem.Str.ofString "parse257")) (PySem.Value.str (PySem.Str.ofString "parse257") 2308) (PySem.Value.ref 136)), (PySem.DictEntry.mk (PySem.PyData.keyHash P (PySem.Str.ofString "mod")) (PySem.Value.str (PySem.Str.ofString "mod") 2318) (PySem.Value.ref 143)), (PySem.DictEntry.mk (PySem.PyData.keyHash P (PySem.Str.ofString "contains")) (PySem.Value.str (PySem.Str.ofString "contains") 2326) (PySem.Value.ref 150)), (PySem.DictEntry.mk (PySem.PyData.keyHash P (PySem.Str.ofString "delitem")) (PySem.Value.str (PySem.Str.ofString "delitem") 2334) (PySem.Value.ref 157)), (PySem.DictEntry.mk (PySem.PyData.keyHash P (PySem.Str.ofString "getitem")) (PySem.Value.str (PySem.Str.ofString "getitem") 2342) (PySem.Value.ref 164)), (PySem.DictEntry.mk (PySem.PyData.keyHash P (PySem.Str.ofString "indexOf")) (PySem.Value.str (PySem.Str.ofString "indexOf") 2352) (PySem.Value.ref 171))] 25) #[])
noncomputable def o12_20 (P : Params) : Obj :=
  (PySem.Obj.mk PySem.Value.none none (PySem.Data.fields #[(PySem.Value.int 3 0), (PySem.Value.int 0 0), (PySem.Value.ref 31), (PySem.Value.int 6 0), (PySem.Value.int 0 0), (PySem.Value.ref 77), (PySem.Value.int 13 0), (PySem.Value.int 0 0), (PySem.Value.ref 84), (PySem.Value.int 42 0), (PySem.Value.int 0 0), (PySem.Value.ref 91), (PySem.Value.int 44 0), (PySem.Value.int 0 0), (PySem.Value.ref 104), (PySem.Value.int 46 0), (PySem.Value.int 0 0), (PySem.Value.ref 116), (PySem.Value.int 48 0), (PySem.Value.int 0 0), (PySem.Value.ref 128), (PySem.Value.int 65 0), (PySem.Value.int 0 0), (PySem.Value.ref 135), (PySem.Value.int 83 0), (PySem.Value.int 0 0), (PySem.Value.ref 142), (PySem.Value.int 85 0), (PySem.Value.int 0 0), (PySem.Value.ref 149), (PySem.Value.int 87 0), (PySem.Value.int 0 0), (PySem.Value.ref 156), (PySem.Value.int 89 0), (PySem.Value.int 0 0), (PySem.Value.ref 163), (PySem.Value.int 91 0), (PySem.Value.int 0 0), (PySem.Value.ref 170)]) #[])
noncomputable def o165_20 (P : Params) : Obj :=
  (PySem.Obj.mk (PySem.Value.type "tuple") none (PySem.Data.seq #[] 0) #[])
noncomputable def o166_20 (P : Params) : Obj :=
  (PySem.Obj.mk PySem.Value.none none (PySem.Data.fields #[]) #[])
noncomputable def o167_20 (P : Params) : Obj :=
  (PySem.Obj.mk (PySem.Value.type "tuple") none (PySem.Data.seq #[(PySem.Value.str (PySem.Str.ofString "a") 2346), (PySem.Value.str (PySem.Str.ofString "b") 2347), (PySem.Value.str (PySem.Str.ofString "i") 2348), (PySem.Value.str (PySem.Str.ofString "j") 2349)] 0) #[])
noncomputable def o168_20 (P : Params) : Obj :=
  (PySem.Obj.mk (PySem.Value.type "tuple") none (PySem.Data.seq #[] 0) #[])
noncomputable def o169_20 (P : Params) : Obj :=
  (PySem.Obj.mk PySem.Value.none none (PySem.Data.func (PySem.FuncData.mk (PySem.Str.ofString "indexOf") (PySem.Str.ofString "indexOf") p19.1 (PySem.FuncBody.stmts b19.1) s19.1 0 [] PySem.Value.none PySem.Value.none PySem.Value.none PySem.Value.none none PySem.Value.none PySem.Value.none 0)) #[])
noncomputable def o170_20 (P : Params) : Obj :=
  (PySem.Obj.mk (PySem.Value.type "code") none (PySem.Data.fields #[(PySem.Value.str (PySem.Str.ofString "indexOf") 2343), (PySem.Value.str (PySem.Str.ofString "indexOf") 2344), (PySem.Value.str (PySem.Str.ofString "/claim/cut.py") 2345), (PySem.Value.int 91 0), (PySem.Value.int 2 0), (PySem.Value.int 0 0), (PySem.Value.int 0 0), (PySem.Value.int 3 0), (PySem.Value.ref 165), (PySem.Value.bool true), (PySem.Value.int 181 0), (PySem.Value.ref 166), PySem.Value.none, (PySem.Value.ref 167), (PySem.Value.ref 168), (PySem.Value.ref 169), (PySem.Value.int 2350 0), (PySem.Value.int 91 0), (PySem.Value.str (PySem.Str.ofString "/claim/cut.py") 2351)]) #[])
noncomputable def o171_20 (P : Params) : Obj :=
  (PySem.Obj.mk (PySem.Value.type "function") none (PySem.Data.func (PySem.FuncData.mk (PySem.Str.ofString "indexOf") (PySem.Str.ofString "indexOf") p19.1 (PySem.FuncBody.stmts b19.1) s19.1 3 [] PySem.Value.none PySem.Value.none PySem.Value.none (PySem.Value.str (PySem.Str.ofString "cpy313.operator") 2309) none (PySem.Value.ref 170) PySem.Value.none 0)) #[])
noncomputable def o3_21 (P : Params) : Obj :=
  (PySem.Obj.mk (PySem.Value.type "dict") none (PySem.Data.dict #[(PySem.DictEntry.mk (PySem.PyData.keyHash P (PySem.Str.ofString "__name__")) (PySem.Value.str (PySem.Str.ofString "__name__") 165) (PySem.Value.str (PySem.Str.ofString "cpy313.operator") 2309)), (PySem.DictEntry.mk (PySem.PyData.keyHash P (PySem.Str.ofString "__doc__")) (PySem.Value.str (PySem.Str.ofString "__doc__") 166) PySem.Value.none), (PySem.DictEntry.mk (PySem.PyData.keyHash P (PySem.Str.ofString "__package__")) (PySem.Value.str (PySem.Str.ofString "__package__") 167) PySem.Value.none), (PySem.DictEntry.mk (PySem.PyData.keyHash P (PySem.Str.ofString "__loader__")) (PySem.Value.str (PySem.Str.ofString "__loader__") 168) (PySem.Value.builtin "__main__.__loader__#opaque")), (PySem.DictEntry.mk (PySem.PyData.keyHash P (PySem.Str.ofString "__spec__")) (PySem.Value.str (PySem.Str.ofString "__spec__") 169) PySem.Value.none), (PySem.DictEntry.mk (PySem.PyData.keyHash P (PySem.Str.ofString "__annotations__")) (PySem.Value.str (PySem.Str.ofString "__annotations__") 170) (PySem.Value.ref 6)), (PySem.DictEntry.mk (PySem.PyData.keyHash P (PySem.Str.ofString "__builtins__")) (PySem.Value.str (PySem.Str.ofString "__builtins__") 171) (PySem.Value.ref 4)), (PySem.DictEntry.mk (PySem.PyData.keyHash P (PySem.Str.ofString "__file__")) (PySem.Value.str (PySem.Str.ofString "__file__") 173) (PySem.Value.str (PySem.Str.ofString "/claim/cut.py") 172)), (PySem.DictEntry.mk (PySem.PyData.keyHash P (PySem.Str.ofString "__cached__")) (PySem.Value.str (PySem.Str.ofString "__cached__") 174) PySem.Value.none), (PySem.DictEntry.mk (PySem.PyData.keyHash P (PySem.Str.ofString "b1_set")) (PySem.Value.str (PySem.Str.ofString "b1_set") 248) (PySem.Value.ref 22)), (PySem.DictEntry.mk (PySem.PyData.keyHash P (PySem.Str.ofString "in_table_b1")) (PySem.Value.str (PySem.Str.ofString "in_table_b1") 255) (PySem.Value.ref 32)), (PySem.DictEntry.mk (PySem.PyData.keyHash P (PySem.Str.ofString "b3_exceptions")) (PySem.Value.str (PySem.Str.ofString "b3_exceptions") 2206) (PySem.Value.ref 33)), (PySem.DictEntry.mk (PySem.PyData.keyHash P (PySem.Str.ofString "map_table_b3")) (PySem.Value.str (PySem.Str.ofString "map_table_b3") 2214) (PySem.Value.ref 78)), (PySem.DictEntry.mk (PySem.PyData.keyHash P (PySem.Str.ofString "ELLIPSIS_MARKER")) (PySem.Value.str (PySem.Str.ofString "ELLIPSIS_MARKER") 2218) (PySem.Value.str (PySem.Str.ofString "...") 2217)), (PySem.DictEntry.mk (PySem.PyData.keyHash P (PySem.Str.ofString "_ellipsis_match")) (PySem.Value.str (PySem.Str.ofString "_ellipsis_match") 2230) (PySem.Value.ref 85)), (PySem.DictEntry.mk (PySem.PyData.keyHash P (PySem.Str.ofString "Error")) (PySem.Value.str (PySem.Str.ofString "Error") 2252) (PySem.Value.ref 95)), (PySem.DictEntry.mk (PySem.PyData.keyHash P (PySem.Str.ofString "error_reply")) (PySem.Value.str (PySem.Str.ofString "error_reply") 2268) (PySem.Value.ref 108)), (PySem.DictEntry.mk (PySem.PyData.keyHash P (PySem.Str.ofString "error_proto")) (PySem.Value.str (PySem.Str.ofString "error_proto") 2284) (PySem.Value.ref 120)), (PySem.DictEntry.mk (PySem.PyData.keyHash P (PySem.Str.ofString "parse229")) (PySem.Value.str (PySem.Str.ofString "parse229") 2297) (PySem.Value.ref 129)), (PySem.DictEntry.mk (PySem.PyData.keyHash P (PySem.Str.ofString "parse257")) (PySem.Value.str (PySem.Str.ofString "parse257") 2308) (PySem.Value.ref 136)), (PySem.DictEntry.mk (PySem.PyData.keyHash P (PySem.Str.ofString "mod")) (PySem.Value.str (PySem.Str.ofString "mod") 2318) (PySem.Value.ref 143)), (PySem.DictEntry.mk (PySem.PyData.keyHash P (PySem.Str.ofString "contains")) (PySem.Value.str (PySem.Str.ofString "contains") 2326) (PySem.Value.ref 150)), (PySem.DictEntry.mk (PySem.PyData.keyHash P (PySem.Str.ofString "delitem")) (PySem.Value.str (PySem.Str.ofString "delitem") 2334) (PySem.Value.ref 157)), (PySem.DictEntry.mk (PySem.PyData.keyHash P (PySem.Str.ofString "getitem")) (PySem.Value.str (PySem.Str.ofString "getitem") 2342) (PySem.Value.ref 164)), (PySem.DictEntry.mk (PySem.PyData.keyHash P (PySem.Str.ofString "indexOf")) (PySem.Value.str (PySem.Str.ofString "indexOf") 2352) (PySem.Value.ref 171)), (PySem.DictEntry.mk (PySem.PyData.keyHash P (PySem.Str.ofString "setitem")) (PySem.Value.str (PySem.Str.ofString "setitem") 2361) (PySem.Value.ref 178))] 26) #[])
noncomputable def o12_21 (P : Params) : Obj :=
  (PySem.Obj.mk PySem.Value.none none (PySem.Data.fields #[(PySem.Value.int 3 0), (PySem.Value.int 0 0), (PySem.Value.ref 31), (PySem.Value.int 6 0), (PySem.Value.int 0 0), (PySem.Value.ref 77), (PySem.Value.int 13 0), (PySem.Value.int 0 0), (PySem.Value.ref 84), (PySem.Value.int 42 0), (PySem.Value.int 0 0), (PySem.Value.ref 91), (PySem.Value.int 44 0), (PySem.Value.int 0 0), (PySem.Value.ref 104), (PySem.Value.int 46 0), (PySem.Value.int 0 0), (PySem.Value.ref 116), (PySem.Value.int 48 0), (PySem.Value.int 0 0), (PySem.Value.ref 128), (PySem.Value.int 65 0), (PySem.Value.int 0 0), (PySem.Value.ref 135), (PySem.Value.int 83 0), (PySem.Value.int 0 0), (PySem.Value.ref 142), (PySem.Value.int 85 0), (PySem.Value.int 0 0), (PySem.Value.ref 149), (PySem.Value.int 87 0), (PySem.Value.int 0 0), (PySem.Value.ref 156), (PySem.Value.int 89 0), (PySem.Value.int 0 0), (PySem.Value.ref 163), (PySem.Value.int 91 0), (PySem.Value.int 0 0), (PySem.Value.ref 170), (PySem.Value.int 97 0), (PySem.Value.int 0 0), (PySem.Value.ref 177)]) #[])
noncomputable def o172_21 (P : Params) : Obj :=
  (PySem.Obj.mk (PySem.Value.type "tuple") none (PySem.Data.seq #[] 0) #[])
noncomputable def o173_21 (P : Params) : Obj :=
  (PySem.Obj.mk PySem.Value.none none (PySem.Data.fields #[]) #[])
noncomputable def o174_21 (P : Params) : Obj :=
  (PySem.Obj.mk (PySem.Value.type "tuple") none (PySem.Data.seq #[(PySem.Value.str (PySem.Str.ofString "a") 2356), (PySem.Value.str (PySem.Str.ofString "b") 2357), (PySem.Value.str (PySem.Str.ofString "c") 2358)] 0) #[])
noncomputable def o175_21 (P : Params) : Obj :=
  (PySem.Obj.mk (PySem.Value.type "tuple") none (PySem.Data.seq #[] 0) #[])
noncomputable def o176_21 (P : Params) : Obj :=
  (PySem.Obj.mk PySem.Value.none none (PySem.Data.func (PySem.FuncData.mk (PySem.Str.ofString "setitem") (PySem.Str.ofString "setitem") p20.1 (PySem.FuncBody.stmts b20.1) s20.1 0 [] PySem.Value.none PySem.Value.none PySem.Value.none PySem.Value.none none PySem.Value.none PySem.Value.none 0)) #[])
noncomputable def o177_21 (P : Params) : Obj :=
  (PySem.Obj.mk (PySem.Value.type "code") none (PySem.Data.fields #[(PySem.Value.str (PySem.Str.ofString "setitem") 2353), (PySem.Value.str (PySem.Str.ofString "setitem") 2354), (PySem.Value.str (PySem.Str.ofString "/claim/cut.py") 2355), (PySem.Value.int 97 0), (PySem.Value.int 3 0), (PySem.Value.int 0 0), (PySem.Value.int 0 0), (PySem.Value.int 3 0), (PySem.Value.ref 172), (PySem.Value.bool true), (PySem.Value.int 181 0), (PySem.Value.ref 173), PySem.Value.none, (PySem.Value.ref 174), (PySem.Value.ref 175), (PySem.Value.ref 176), (PySem.Value.int 2359 0), (PySem.Value.int 97 0), (PySem.Value.str (PySem.Str.ofString "/claim/cut.py") 2360)]) #[])
noncomputable def o178_21 (P : Params) : Obj :=
  (PySem.Obj.mk (PySem.Value.type "function") none (PySem.Data.func (PySem.FuncData.mk (PySem.Str.ofString "setitem") (PySem.Str.ofString "setitem") p20.1 (PySem.FuncBody.stmts b20.1) s20.1 3 [] PySem.Value.none PySem.Value.none PySem.Value.none (PySem.Value.str (PySem.Str.ofString "cpy313.operator") 2309) none (PySem.Value.ref 177) PySem.Value.none 0)) #[])
noncomputable def o3_22 (P : Params) : Obj :=
  (PySem.Obj.mk (PySem.Value.type "dict") none (PySem.Data.dict #[(PySem.DictEntry.mk (PySem.PyData.keyHash P (PySem.Str.ofString "__name__")) (PySem.Value.str (PySem.Str.ofString "__name__") 165) (PySem.Value.str (PySem.Str.ofString "law_wr0050_01") 2362)), (PySem.DictEntry.mk (PySem.PyData.keyHash P (PySem.Str.ofString "__doc__")) (PySem.Value.str (PySem.Str.ofString "__doc__") 166) PySem.Value.none), (PySem.DictEntry.mk (PySem.PyData.keyHash P (PySem.Str.ofString "__package__")) (PySem.Value.str (PySem.Str.ofString "__package__") 167) PySem.Value.none), (PySem.DictEntry.mk (PySem.PyData.keyHash P (PySem.Str.ofString "__loader__")) (PySem.Value.str (PySem.Str.ofString "__loader__") 168) (PySem.Value.builtin "__main__.__loader__#opaque")), (PySem.DictEntry.mk (PySem.PyData.keyHash P (PySem.Str.ofString "__spec__")) (PySem.Value.str (PySem.Str.ofString "__spec__") 169) PySem.Value.none), (PySem.DictEntry.mk (PySem.PyData.keyHash P (PySem.Str.ofString "__annotations__")) (PySem.Value.str (PySem.Str.ofString "__annotations__") 170) (PySem.Value.ref 6)), (PySem.DictEntry.mk (PySem.PyData.keyHash P (PySem.Str.ofString "__builtins__")) (PySem.Value.str (PySem.Str.ofString "__builtins__") 171) (PySem.Value.ref 4)), (PySem.DictEntry.mk (PySem.PyData.keyHash P (PySem.Str.ofString "__file__")) (PySem.Value.str (PySem.Str.ofString "__file__") 173) (PySem.Value.str (PySem.Str.ofString "/claim/cut.py") 172)), (PySem.DictEntry.mk (PySem.PyData.keyHash P (PySem.Str.ofString "__cached__")) (PySem.Value.str (PySem.Str.ofString "__cached__") 174) PySem.Value.none), (PySem.DictEntry.mk (PySem.PyData.keyHash P (PySem.Str.ofString "b1_set")) (PySem.Value.str (PySem.Str.ofString "b1_set") 248) (PySem.Value.ref 22)), (PySem.DictEntry.mk (PySem.PyData.keyHash P (PySem.Str.ofString "in_table_b1")) (PySem.Value.str (PySem.Str.ofString "in_table_b1") 255) (PySem.Value.ref 32)), (PySem.DictEntry.mk (PySem.PyData.keyHash P (PySem.Str.ofString "b3_exceptions")) (PySem.Value.str (PySem.Str.ofString "b3_exceptions") 2206) (PySem.Value.ref 33)), (PySem.DictEntry.mk (PySem.PyData.keyHash P (PySem.Str.ofString "map_table_b3")) (PySem.Value.str (PySem.Str.ofString "map_table_b3") 2214) (PySem.Value.ref 78)), (PySem.DictEntry.mk (PySem.PyData.keyHash P (PySem.Str.ofString "ELLIPSIS_MARKER")) (PySem.Value.str (PySem.Str.ofString "ELLIPSIS_MARKER") 2218) (PySem.Value.str (PySem.Str.ofString "...") 2217)), (PySem.DictEntry.mk (PySem.PyData.keyHash P (PySem.Str.ofString "_ellipsis_match")) (PySem.Value.str (PySem.Str.ofString "_ellipsis_match") 2230) (PySem.Value.ref 85)), (PySem.DictEntry.mk (PySem.PyData.keyHash P (PySem.Str.ofString "Error")) (PySem.Value.str (PySem.Str.ofString "Error") 2252) (PySem.Value.ref 95)), (PySem.DictEntry.mk (PySem.PyData.keyHash P (PySem.Str.ofString "error_reply")) (PySem.Value.str (PySem.Str.ofString "error_reply") 2268) (PySem.Value.ref 108)), (PySem.DictEntry.mk (PySem.PyData.keyHash P (PySem.Str.ofString "error_proto")) (PySem.Value.str (PySem.Str.ofString "error_proto") 2284) (PySem.Value.ref 120)), (PySem.DictEntry.mk (PySem.PyData.keyHash P (PySem.Str.ofString "parse229")) (PySem.Value.str (PySem.Str.ofString "parse229") 2297) (PySem.Value.ref 129)), (PySem.DictEntry.mk (PySem.PyData.keyHash P (PySem.Str.ofString "parse257")) (PySem.Value.str (PySem.Str.ofString "parse257") 2308) (PySem.Value.ref 136)), (PySem.DictEntry.mk (PySem.PyData.keyHash P (PySem.Str.ofString "mod")) (PySem.Value.str (PySem.Str.ofString "mod") 2318) (PySem.Value.ref 143)), (PySem.DictEntry.mk (PySem.PyData.keyHash P (PySem.Str.ofString "contains")) (PySem.Value.str (PySem.Str.ofString "contains") 2326) (PySem.Value.ref 150)), (PySem.DictEntry.mk (PySem.PyData.keyHash P (PySem.Str.ofString "delitem")) (PySem.Value.str (PySem.Str.ofString "delitem") 2334) (PySem.Value.ref 157)), (PySem.DictEntry.mk (PySem.PyData.keyHash P (PySem.Str.ofString "getitem")) (PySem.Value.str (PySem.Str.ofString "getitem") 2342) (PySem.Value.ref 164)), (PySem.DictEntry.mk (PySem.PyData.keyHash P (PySem.Str.ofString "indexOf")) (PySem.Value.str (PySem.Str.ofString "indexOf") 2352) (PySem.Value.ref 171)), (PySem.DictEntry.mk (PySem.PyData.keyHash P (PySem.Str.ofString "setitem")) (PySem.Value.str (PySem.Str.ofString "setitem") 2361) (PySem.Value.ref 178))] 26) #[])
noncomputable def o3_23 (P : Params) : Obj :=
  (PySem.Obj.mk (PySem.Value.type "dict") none (PySem.Data.dict #[(PySem.DictEntry.mk (PySem.PyData.keyHash P (PySem.Str.ofString "__name__")) (PySem.Value.str (PySem.Str.ofString "__name__") 165) (PySem.Value.str (PySem.Str.ofString "law_wr0050_01") 2362)), (PySem.DictEntry.mk (PySem.PyData.keyHash P (PySem.Str.ofString "__doc__")) (PySem.Value.str (PySem.Str.ofString "__doc__") 166) PySem.Value.none), (PySem.DictEntry.mk (PySem.PyData.keyHash P (PySem.Str.ofString "__package__")) (PySem.Value.str (PySem.Str.ofString "__package__") 167) PySem.Value.none), (PySem.DictEntry.mk (PySem.PyData.keyHash P (PySem.Str.ofString "__loader__")) (PySem.Value.str (PySem.Str.ofString "__loader__") 168) (PySem.Value.builtin "__main__.__loader__#opaque")), (PySem.DictEntry.mk (PySem.PyData.keyHash P (PySem.Str.ofString "__spec__")) (PySem.Value.str (PySem.Str.ofString "__spec__") 169) PySem.Value.none), (PySem.DictEntry.mk (PySem.PyData.keyHash P (PySem.Str.ofString "__annotations__")) (PySem.Value.str (PySem.Str.ofString "__annotations__") 170) (PySem.Value.ref 6)), (PySem.DictEntry.mk (PySem.PyData.keyHash P (PySem.Str.ofString "__builtins__")) (PySem.Value.str (PySem.Str.ofString "__builtins__") 171) (PySem.Value.ref 4)), (PySem.DictEntry.mk (PySem.PyData.keyHash P (PySem.Str.ofString "__file__")) (PySem.Value.str (PySem.Str.ofString "__file__") 173) (PySem.Value.str (PySem.Str.ofString "/claim/cut.py") 172)), (PySem.DictEntry.mk (PySem.PyData.keyHash P (PySem.Str.ofString "__cached__")) (PySem.Value.str (PySem.Str.ofString "__cached__") 174) PySem.Value.none), (PySem.DictEntry.mk (PySem.PyData.keyHash P (PySem.Str.ofString "b1_set")) (PySem.Value.str (PySem.Str.ofString "b1_set") 248) (PySem.Value.ref 22)), (PySem.DictEntry.mk (PySem.PyData.keyHash P (PySem.Str.ofString "in_table_b1")) (PySem.Value.str (PySem.Str.ofString "in_table_b1") 255) (PySem.Value.ref 32)), (PySem.DictEntry.mk (PySem.PyData.keyHash P (PySem.Str.ofString "b3_exceptions")) (PySem.Value.str (PySem.Str.ofString "b3_exceptions") 2206) (PySem.Value.ref 33)), (PySem.DictEntry.mk (PySem.PyData.keyHash P (PySem.Str.ofString "map_table_b3")) (PySem.Value.str (PySem.Str.ofString "map_table_b3") 2214) (PySem.Value.ref 78)), (PySem.DictEntry.mk (PySem.PyData.keyHash P (PySem.Str.ofString "ELLIPSIS_MARKER")) (PySem.Value.str (PySem.Str.ofString "ELLIPSIS_MARKER") 2218) (PySem.Value.str (PySem.Str.ofString "...") 2217)), (PySem.DictEntry.mk (PySem.PyData.keyHash P (PySem.Str.ofString "_ellipsis_match")) (PySem.Value.str (PySem.Str.ofString "_ellipsis_match") 2230) (PySem.Value.ref 85)), (PySem.DictEntry.mk (PySem.PyData.keyHash P (PySem.Str.ofString "Error")) (PySem.Value.str (PySem.Str.ofString "Error") 2252) (PySem.Value.ref 95)), (PySem.DictEntry.mk (PySem.PyData.keyHash P (PySem.Str.ofString "error_reply")) (PySem.Value.str (PySem.Str.ofString "error_reply") 2268) (PySem.Value.ref 108)), (PySem.DictEntry.mk (PySem.PyData.keyHash P (PySem.Str.ofString "error_proto")) (PySem.Value.str (PySem.Str.ofString "error_proto") 2284) (PySem.Value.ref 120)), (PySem.DictEntry.mk (PySem.PyData.keyHash P (PySem.Str.ofString "parse229")) (PySem.Value.str (PySem.Str.ofString "parse229") 2297) (PySem.Value.ref 129)), (PySem.DictEntry.mk (PySem.PyData.keyHash P (PySem.Str.ofString "parse257")) (PySem.Value.str (PySem.Str.ofString "parse257") 2308) (PySem.Value.ref 136)), (PySem.DictEntry.mk (PySem.PyData.keyHash P (PySem.Str.ofString "mod")) (PySem.Value.str (PySem.Str.ofString "mod") 2318) (PySem.Value.ref 143)), (PySem.DictEntry.mk (PySem.PyData.keyHash P (PySem.Str.ofString "contains")) (PySem.Value.str (PySem.Str.ofString "contains") 2326) (PySem.Value.ref 150)), (PySem.DictEntry.mk (PySem.PyData.keyHash P (PySem.Str.ofString "delitem")) (PySem.Value.str (PySem.Str.ofString "delitem") 2334) (PySem.Value.ref 157)), (PySem.DictEntry.mk (PySem.PyData.keyHash P (PySem.Str.ofString "getitem")) (PySem.Value.str (PySem.Str.ofString "getitem") 2342) (PySem.Value.ref 164)), (PySem.DictEntry.mk (PySem.PyData.keyHash P (PySem.Str.ofString "indexOf")) (PySem.Value.str (PySem.Str.ofString "indexOf") 2352) (PySem.Value.ref 171)), (PySem.DictEntry.mk (PySem.PyData.keyHash P (PySem.Str.ofString "setitem")) (PySem.Value.str (PySem.Str.ofString "setitem") 2361) (PySem.Value.ref 178)), (PySem.DictEntry.mk (PySem.PyData.keyHash P (PySem.Str.ofString "_law_order")) (PySem.Value.str (PySem.Str.ofString "_law_order") 2373) (PySem.Value.ref 185))] 27) #[])
noncomputable def o12_23 (P : Params) : Obj :=
  (PySem.Obj.mk PySem.Value.none none (PySem.Data.fields #[(PySem.Value.int 3 0), (PySem.Value.int 0 0), (PySem.Value.ref 31), (PySem.Value.int 6 0), (PySem.Value.int 0 0), (PySem.Value.ref 77), (PySem.Value.int 13 0), (PySem.Value.int 0 0), (PySem.Value.ref 84), (PySem.Value.int 42 0), (PySem.Value.int 0 0), (PySem.Value.ref 91), (PySem.Value.int 44 0), (PySem.Value.int 0 0), (PySem.Value.ref 104), (PySem.Value.int 46 0), (PySem.Value.int 0 0), (PySem.Value.ref 116), (PySem.Value.int 48 0), (PySem.Value.int 0 0), (PySem.Value.ref 128), (PySem.Value.int 65 0), (PySem.Value.int 0 0), (PySem.Value.ref 135), (PySem.Value.int 83 0), (PySem.Value.int 0 0), (PySem.Value.ref 142), (PySem.Value.int 85 0), (PySem.Value.int 0 0), (PySem.Value.ref 149), (PySem.Value.int 87 0), (PySem.Value.int 0 0), (PySem.Value.ref 156), (PySem.Value.int 89 0), (PySem.Value.int 0 0), (PySem.Value.ref 163), (PySem.Value.int 91 0), (PySem.Value.int 0 0), (PySem.Value.ref 170), (PySem.Value.int 97 0), (PySem.Value.int 0 0), (PySem.Value.ref 177), (PySem.Value.int 100 0), (PySem.Value.int 0 0), (PySem.Value.ref 184)]) #[])
noncomputable def o179_23 (P : Params) : Obj :=
  (PySem.Obj.mk (PySem.Value.type "tuple") none (PySem.Data.seq #[] 0) #[])
noncomputable def o180_23 (P : Params) : Obj :=
  (PySem.Obj.mk PySem.Value.none none (PySem.Data.fields #[]) #[])
noncomputable def o181_23 (P : Params) : Obj :=
  (PySem.Obj.mk (PySem.Value.type "tuple") none (PySem.Data.seq #[(PySem.Value.str (PySem.Str.ofString "n") 2367), (PySem.Value.str (PySem.Str.ofString "left") 2368), (PySem.Value.str (PySem.Str.ofString "order") 2369), (PySem.Value.str (PySem.Str.ofString "size") 2370)] 0) #[])
noncomputable def o182_23 (P : Params) : Obj :=
  (PySem.Obj.mk (PySem.Value.type "tuple") none (PySem.Data.seq #[] 0) #[])
noncomputable def o183_23 (P : Params) : Obj :=
  (PySem.Obj.mk PySem.Value.none none (PySem.Data.func (PySem.FuncData.mk (PySem.Str.ofString "_law_order") (PySem.Str.ofString "_law_order") p22.1 (PySem.FuncBody.stmts b22.1) s22.1 0 [] PySem.Value.none PySem.Value.none PySem.Value.none PySem.Value.none none PySem.Value.none PySem.Value.none 0)) #[])
noncomputable def o184_23 (P : Params) : Obj :=
  (PySem.Obj.mk (PySem.Value.type "code") none (PySem.Data.fields #[(PySem.Value.str (PySem.Str.ofString "_law_order") 2364), (PySem.Value.str (PySem.Str.ofString "_law_order") 2365), (PySem.Value.str (PySem.Str.ofString "/claim/cut.py") 2366), (PySem.Value.int 100 0), (PySem.Value.int 1 0), (PySem.Value.int 0 0), (PySem.Value.int 0 0), (PySem.Value.int 3 0), (PySem.Value.ref 179), (PySem.Value.bool true), (PySem.Value.int 181 0), (PySem.Value.ref 180), PySem.Value.none, (PySem.Value.ref 181), (PySem.Value.ref 182), (PySem.Value.ref 183), (PySem.Value.int 2371 0), (PySem.Value.int 100 0), (PySem.Value.str (PySem.Str.ofString "/claim/cut.py") 2372)]) #[])
noncomputable def o185_23 (P : Params) : Obj :=
  (PySem.Obj.mk (PySem.Value.type "function") none (PySem.Data.func (PySem.FuncData.mk (PySem.Str.ofString "_law_order") (PySem.Str.ofString "_law_order") p22.1 (PySem.FuncBody.stmts b22.1) s22.1 3 [] PySem.Value.none PySem.Value.none PySem.Value.none (PySem.Value.str (PySem.Str.ofString "law_wr0050_01") 2362) none (PySem.Value.ref 184) PySem.Value.none 0)) #[])
noncomputable def o3_24 (P : Params) : Obj :=
  (PySem.Obj.mk (PySem.Value.type "dict") none (PySem.Data.dict #[(PySem.DictEntry.mk (PySem.PyData.keyHash P (PySem.Str.ofString "__name__")) (PySem.Value.str (PySem.Str.ofString "__name__") 165) (PySem.Value.str (PySem.Str.ofString "law_wr0050_01") 2362)), (PySem.DictEntry.mk (PySem.PyData.keyHash P (PySem.Str.ofString "__doc__")) (PySem.Value.str (PySem.Str.ofString "__doc__") 166) PySem.Value.none), (PySem.DictEntry.mk (PySem.PyData.keyHash P (PySem.Str.ofString "__package__")) (PySem.Value.str (PySem.Str.ofString "__package__") 167) PySem.Value.none), (PySem.DictEntry.mk (PySem.PyData.keyHash P (PySem.Str.ofString "__loader__")) (PySem.Value.str (PySem.Str.ofString "__loader__") 168) (PySem.Value.builtin "__main__.__loader__#opaque")), (PySem.DictEntry.mk (PySem.PyData.keyHash P (PySem.Str.ofString "__spec__")) (PySem.Value.str (PySem.Str.ofString "__spec__") 169) PySem.Value.none), (PySem.DictEntry.mk (PySem.PyData.keyHash P (PySem.Str.ofString "__annotations__")) (PySem.Value.str (PySem.Str.ofString "__annotations__") 170) (PySem.Value.ref 6)), (PySem.DictEntry.mk (PySem.PyData.keyHash P (PySem.Str.ofString "__builtins__")) (PySem.Value.str (PySem.Str.ofString "__builtins__") 171) (PySem.Value.ref 4)), (PySem.DictEntry.mk (PySem.PyData.keyHash P (PySem.Str.ofString "__file__")) (PySem.Value.str (PySem.Str.ofString "__file__") 173) (PySem.Value.str (PySem.Str.ofString "/claim/cut.py") 172)), (PySem.DictEntry.mk (PySem.PyData.keyHash P (PySem.Str.ofString "__cached__")) (PySem.Value.str (PySem.Str.ofString "__cached__") 174) PySem.Value.none), (PySem.DictEntry.mk (PySem.PyData.keyHash P (PySem.Str.ofString "b1_set")) (PySem.Value.str (PySem.Str.ofString "b1_set") 248) (PySem.Value.ref 22)), (PySem.DictEntry.mk (PySem.PyData.keyHash P (PySem.Str.ofString "in_table_b1")) (PySem.Value.str (PySem.Str.ofString "in_table_b1") 255) (PySem.Value.ref 32)), (PySem.DictEntry.mk (PySem.PyData.keyHash P (PySem.Str.ofString "b3_exceptions")) (PySem.Value.str (PySem.Str.ofString "b3_exceptions") 2206) (PySem.Value.ref 33)), (PySem.DictEntry.mk (PySem.PyData.keyHash P (PySem.Str.ofString "map_table_b3")) (PySem.Value.str (PySem.Str.ofString "map_table_b3") 2214) (PySem.Value.ref 78)), (PySem.DictEntry.mk (PySem.PyData.keyHash P (PySem.Str.ofString "ELLIPSIS_MARKER")) (PySem.Value.str (PySem.Str.ofString "ELLIPSIS_MARKER") 2218) (PySem.Value.str (PySem.Str.ofString "...") 2217)), (PySem.DictEntry.mk (PySem.PyData.keyHash P (PySem.Str.ofString "_ellipsis_match")) (PySem.Value.str (PySem.Str.ofString "_ellipsis_match") 2230) (PySem.Value.ref 85)), (PySem.DictEntry.mk (PySem.PyData.keyHash P (PySem.Str.ofString "Error")) (PySem.Value.str (PySem.Str.ofString "Error") 2252) (PySem.Value.ref 95)), (PySem.DictEntry.mk (PySem.PyData.keyHash P (PySem.Str.ofString "error_reply")) (PySem.Value.str (PySem.Str.ofString "error_reply") 2268) (PySem.Value.ref 108)), (PySem.DictEntry.mk (PySem.PyData.keyHash P (PySem.Str.ofString "error_proto")) (PySem.Value.str (PySem.Str.ofString "error_proto") 2284) (PySem.Value.ref 120)), (PySem.DictEntry.mk (PySem.PyData.keyHash P (PySem.Str.ofString "parse229")) (PySem.Value.str (PySem.Str.ofString "parse229") 2297) (PySem.Value.ref 129)), (PySem.DictEntry.mk (PySem.PyData.keyHash P (PySem.Str.ofString "parse257")) (PySem.Value.str (PySem.Str.ofString "parse257") 2308) (PySem.Value.ref 136)), (PySem.DictEntry.mk (PySem.PyData.keyHash P (PySem.Str.ofString "mod")) (PySem.Value.str (PySem.Str.ofString "mod") 2318) (PySem.Value.ref 143)), (PySem.DictEntry.mk (PySem.PyData.keyHash P (PySem.Str.ofString "contains")) (PySem.Value.str (PySem.Str.ofString "contains") 2326) (PySem.Value.ref 150)), (PySem.DictEntry.mk (PySem.PyData.keyHash P (PySem.Str.ofString "delitem")) (PySem.Value.str (PySem.Str.ofString "delitem") 2334) (PySem.Value.ref 157)), (PySem.DictEntry.mk (PySem.PyData.keyHash P (PySem.Str.ofString "getitem")) (PySem.Value.str (PySem.Str.ofString "getitem") 2342) (PySem.Value.ref 164)), (PySem.DictEntry.mk (PySem.PyData.keyHash P (PySem.Str.ofString "indexOf")) (PySem.Value.str (PySem.Str.ofString "indexOf") 2352) (PySem.Value.ref 171)), (PySem.DictEntry.mk (PySem.PyData.keyHash P (PySem.Str.ofString "setitem")) (PySem.Value.str (PySem.Str.ofString "setitem") 2361) (PySem.Value.ref 178)), (PySem.DictEntry.mk (PySem.PyData.keyHash P (PySem.Str.ofString "_law_order")) (PySem.Value.str (PySem.Str.ofString "_law_order") 2373) (PySem.Value.ref 185)), (PySem.DictEntry.mk (PySem.PyData.keyHash P (PySem.Str.ofString "_law_dressed")) (PySem.Value.str (PySem.Str.ofString "_law_dressed") 2386) (PySem.Value.ref 192))] 28) #[])
noncomputable def o12_24 (P : Params) : Obj :=
  (PySem.Obj.mk PySem.Value.none none (PySem.Data.fields #[(PySem.Value.int 3 0), (PySem.Value.int 0 0), (PySem.Value.ref 31), (PySem.Value.int 6 0), (PySem.Value.int 0 0), (PySem.Value.ref 77), (PySem.Value.int 13 0), (PySem.Value.int 0 0), (PySem.Value.ref 84), (PySem.Value.int 42 0), (PySem.Value.int 0 0), (PySem.Value.ref 91), (PySem.Value.int 44 0), (PySem.Value.int 0 0), (PySem.Value.ref 104), (PySem.Value.int 46 0), (PySem.Value.int 0 0), (PySem.Value.ref 116), (PySem.Value.int 48 0), (PySem.Value.int 0 0), (PySem.Value.ref 128), (PySem.Value.int 65 0), (PySem.Value.int 0 0), (PySem.Value.ref 135), (PySem.Value.int 83 0), (PySem.Value.int 0 0), (PySem.Value.ref 142), (PySem.Value.int 85 0), (PySem.Value.int 0 0), (PySem.Value.ref 149), (PySem.Value.int 87 0), (PySem.Value.int 0 0), (PySem.Value.ref 156), (PySem.Value.int 89 0), (PySem.Value.int 0 0), (PySem.Value.ref 163), (PySem.Value.int 91 0), (PySem.Value.int 0 0), (PySem.Value.ref 170), (PySem.Value.int 97 0), (PySem.Value.int 0 0), (PySem.Value.ref 177), (PySem.Value.int 100 0), (PySem.Value.int 0 0), (PySem.Value.ref 184), (PySem.Value.int 108 0), (PySem.Value.int 0 0), (PySem.Value.ref 191)]) #[])
noncomputable def o186_24 (P : Params) : Obj :=
  (PySem.Obj.mk (PySem.Value.type "tuple") none (PySem.Data.seq #[] 0) #[])
noncomputable def o187_24 (P : Params) : Obj :=
  (PySem.Obj.mk PySem.Value.none none (PySem.Data.fields #[]) #[])
noncomputable def o188_24 (P : Params) : Obj :=
  (PySem.Obj.mk (PySem.Value.type "tuple") none (PySem.Data.seq #[(PySem.Value.str (PySem.Str.ofString "order") 2377), (PySem.Value.str (PySem.Str.ofString "m") 2378), (PySem.Value.str (PySem.Str.ofString "hidden") 2379), (PySem.Value.str (PySem.Str.ofString "pieces") 2380), (PySem.Value.str (PySem.Str.ofString "k") 2381), (PySem.Value.str (PySem.Str.ofString "n") 2382), (PySem.Value.str (PySem.Str.ofString "ahead") 2383)] 0) #[])
noncomputable def o189_24 (P : Params) : Obj :=
  (PySem.Obj.mk (PySem.Value.type "tuple") none (PySem.Data.seq #[] 0) #[])
noncomputable def o190_24 (P : Params) : Obj :=
  (PySem.Obj.mk PySem.Value.none none (PySem.Data.func (PySem.FuncData.mk (PySem.Str.ofString "_law_dressed") (PySem.Str.ofString "_law_dressed") p23.1 (PySem.FuncBody.stmts b23.1) s23.1 0 [] PySem.Value.none PySem.Value.none PySem.Value.none PySem.Value.none none PySem.Value.none PySem.Value.none 0)) #[])
noncomputable def o191_24 (P : Params) : Obj :=
  (PySem.Obj.mk (PySem.Value.type "code") none (PySem.Data.fields #[(PySem.Value.str (PySem.Str.ofString "_law_dressed") 2374), (PySem.Value.str (PySem.Str.ofString "_law_dressed") 2375), (PySem.Value.str (PySem.Str.ofString "/claim/cut.py") 2376), (PySem.Value.int 108 0), (PySem.Value.int 2 0), (PySem.Value.int 0 0), (PySem.Value.int 0 0), (PySem.Value.int 3 0), (PySem.Value.ref 186), (PySem.Value.bool true), (PySem.Value.int 181 0), (PySem.Value.ref 187), PySem.Value.none, (PySem.Value.ref 188), (PySem.Value.ref 189), (PySem.Value.ref 190), (PySem.Value.int 2384 0), (PySem.Value.int 108 0), (PySem.Value.str (PySem.Str.ofString "/claim/cut.py") 2385)]) #[])
noncomputable def o192_24 (P : Params) : Obj :=
  (PySem.Obj.mk (PySem.Value.type "function") none (PySem.Data.func (PySem.FuncData.mk (PySem.Str.ofString "_law_dressed") (PySem.Str.ofString "_law_dressed") p23.1 (PySem.FuncBody.stmts b23.1) s23.1 3 [] PySem.Value.none PySem.Value.none PySem.Value.none (PySem.Value.str (PySem.Str.ofString "law_wr0050_01") 2362) none (PySem.Value.ref 191) PySem.Value.none 0)) #[])
noncomputable def o3_25 (P : Params) : Obj :=
  (PySem.Obj.mk (PySem.Value.type "dict") none (PySem.Data.dict #[(PySem.DictEntry.mk (PySem.PyData.keyHash P (PySem.Str.ofString "__name__")) (PySem.Value.str (PySem.Str.ofString "__name__") 165) (PySem.Value.str (PySem.Str.ofString "law_wr0050_01") 2362)), (PySem.DictEntry.mk (PySem.PyData.keyHash P (PySem.Str.ofString "__doc__")) (PySem.Value.str (PySem.Str.ofString "__doc__") 166) PySem.Value.none), (PySem.DictEntry.mk (PySem.PyData.keyHash P (PySem.Str.ofString "__package__")) (PySem.Value.str (PySem.Str.ofString "__package__") 167) PySem.Value.none), (PySem.DictEntry.mk (PySem.PyData.keyHash P (PySem.Str.ofString "__loader__")) (PySem.Value.str (PySem.Str.ofString "__loader__") 168) (PySem.Value.builtin "__main__.__loader__#opaque")), (PySem.DictEntry.mk (PySem.PyData.keyHash P (PySem.Str.ofString "__spec__")) (PySem.Value.str (PySem.Str.ofString "__spec__") 169) PySem.Value.none), (PySem.DictEntry.mk (PySem.PyData.keyHash P (PySem.Str.ofString "__annotations__")) (PySem.Value.str (PySem.Str.ofString "__annotations__") 170) (PySem.Value.ref 6)), (PySem.DictEntry.mk (PySem.PyData.keyHash P (PySem.Str.ofString "__builtins__")) (PySem.Value.str (PySem.Str.ofString "__builtins__") 171) (PySem.Value.ref 4)), (PySem.DictEntry.mk (PySem.PyData.keyHash P (PySem.Str.ofString "__file__")) (PySem.Value.str (PySem.Str.ofString "__file__") 173) (PySem.Value.str (PySem.Str.ofString "/claim/cut.py") 172)), (PySem.DictEntry.mk (PySem.PyData.keyHash P (PySem.Str.ofString "__cached__")) (PySem.Value.str (PySem.Str.ofString "__cached__") 174) PySem.Value.none), (PySem.DictEntry.mk (PySem.PyData.keyHash P (PySem.Str.ofString "b1_set")) (PySem.Value.str (PySem.Str.ofString "b1_set") 248) (PySem.Value.ref 22)), (PySem.DictEntry.mk (PySem.PyData.keyHash P (PySem.Str.ofString "in_table_b1")) (PySem.Value.str (PySem.Str.ofString "in_table_b1") 255) (PySem.Value.ref 32)), (PySem.DictEntry.mk (PySem.PyData.keyHash P (PySem.Str.ofString "b3_exceptions")) (PySem.Value.str (PySem.Str.ofString "b3_exceptions") 2206) (PySem.Value.ref 33)), (PySem.DictEntry.mk (PySem.PyData.keyHash P (PySem.Str.ofString "map_table_b3")) (PySem.Value.str (PySem.Str.ofString "map_table_b3") 2214) (PySem.Value.ref 78)), (PySem.DictEntry.mk (PySem.PyData.keyHash P (PySem.Str.ofString "ELLIPSIS_MARKER")) (PySem.Value.str (PySem.Str.ofString "ELLIPSIS_MARKER") 2218) (PySem.Value.str (PySem.Str.ofString "...") 2217)), (PySem.DictEntry.mk (PySem.PyData.keyHash P (PySem.Str.ofString "_ellipsis_match")) (PySem.Value.str (PySem.Str.ofString "_ellipsis_match") 2230) (PySem.Value.ref 85)), (PySem.DictEntry.mk (PySem.PyData.keyHash P (PySem.Str.ofString "Error")) (PySem.Value.str (PySem.Str.ofString "Error") 2252) (PySem.Value.ref 95)), (PySem.DictEntry.mk (PySem.PyData.keyHash P (PySem.Str.ofString "error_reply")) (PySem.Value.str (PySem.Str.ofString "error_reply") 2268) (PySem.Value.ref 108)), (PySem.DictEntry.mk (PySem.PyData.keyHash P (PySem.Str.ofString "error_proto")) (PySem.Value.str (PySem.Str.ofString "error_proto") 2284) (PySem.Value.ref 120)), (PySem.DictEntry.mk (PySem.PyData.keyHash P (PySem.Str.ofString "parse229")) (PySem.Value.str (PySem.Str.ofString "parse229") 2297) (PySem.Value.ref 129)), (PySem.DictEntry.mk (PySem.PyData.keyHash P (PySem.Str.ofString "parse257")) (PySem.Value.str (PySem.Str.ofString "parse257") 2308) (PySem.Value.ref 136)), (PySem.DictEntry.mk (PySem.PyData.keyHash P (PySem.Str.ofString "mod")) (PySem.Value.str (PySem.Str.ofString "mod") 2318) (PySem.Value.ref 143)), (PySem.DictEntry.mk (PySem.PyData.keyHash P (PySem.Str.ofString "contains")) (PySem.Value.str (PySem.Str.ofString "contains") 2326) (PySem.Value.ref 150)), (PySem.DictEntry.mk (PySem.PyData.keyHash P (PySem.Str.ofString "delitem")) (PySem.Value.str (PySem.Str.ofString "delitem") 2334) (PySem.Value.ref 157)), (PySem.DictEntry.mk (PySem.PyData.keyHash P (PySem.Str.ofString "getitem")) (PySem.Value.str (PySem.Str.ofString "getitem") 2342) (PySem.Value.ref 164)), (PySem.DictEntry.mk (PySem.PyData.keyHash P (PySem.Str.ofString "indexOf")) (PySem.Value.str (PySem.Str.ofString "indexOf") 2352) (PySem.Value.ref 171)), (PySem.DictEntry.mk (PySem.PyData.keyHash P (PySem.Str.ofString "setitem")) (PySem.Value.str (PySem.Str.ofString "setitem") 2361) (PySem.Value.ref 178)), (PySem.DictEntry.mk (PySem.PyData.keyHash P (PySem.Str.ofString "_law_order")) (PySem.Value.str (PySem.Str.ofString "_law_order") 2373) (PySem.Value.ref 185)), (PySem.DictEntry.mk (PySem.PyData.keyHash P (PySem.Str.ofString "_law_dressed")) (PySem.Value.str (PySem.Str.ofString "_law_dressed") 2386) (PySem.Value.ref 192)), (PySem.DictEntry.mk (PySem.PyData.keyHash P (PySem.Str.ofString "_law_traded")) (PySem.Value.str (PySem.Str.ofString "_law_traded") 2401) (PySem.Value.ref 199))] 29) #[])
noncomputable def o12_25 (P : Params) : Obj :=
  (PySem.Obj.mk PySem.Value.none none (PySem.Data.fields #[(PySem.Value.int 3 0), (PySem.Value.int 0 0), (PySem.Value.ref 31), (PySem.Value.int 6 0), (PySem.Value.int 0 0), (PySem.Value.ref 77), (PySem.Value.int 13 0), (PySem.Value.int 0 0), (PySem.Value.ref 84), (PySem.Value.int 42 0), (PySem.Value.int 0 0), (PySem.Value.ref 91), (PySem.Value.int 44 0), (PySem.Value.int 0 0), (PySem.Value.ref 104), (PySem.Value.int 46 0), (PySem.Value.int 0 0), (PySem.Value.ref 116), (PySem.Value.int 48 0), (PySem.Value.int 0 0), (PySem.Value.ref 128), (PySem.Value.int 65 0), (PySem.Value.int 0 0), (PySem.Value.ref 135), (PySem.Value.int 83 0), (PySem.Value.int 0 0), (PySem.Value.ref 142), (PySem.Value.int 85 0), (PySem.Value.int 0 0), (PySem.Value.ref 149), (PySem.Value.int 87 0), (PySem.Value.int 0 0), (PySem.Value.ref 156), (PySem.Value.int 89 0), (PySem.Value.int 0 0), (PySem.Value.ref 163), (PySem.Value.int 91 0), (PySem.Value.int 0 0), (PySem.Value.ref 170), (PySem.Value.int 97 0), (PySem.Value.int 0 0), (PySem.Value.ref 177), (PySem.Value.int 100 0), (PySem.Value.int 0 0), (PySem.Value.ref 184), (PySem.Value.int 108 0), (PySem.Value.int 0 0), (PySem.Value.ref 191), (PySem.Value.int 125 0), (PySem.Value.int 0 0), (PySem.Value.ref 198)]) #[])
noncomputable def o193_25 (P : Params) : Obj :=
  (PySem.Obj.mk (PySem.Value.type "tuple") none (PySem.Data.seq #[] 0) #[])
noncomputable def o194_25 (P : Params) : Obj :=
  (PySem.Obj.mk PySem.Value.none none (PySem.Data.fields #[]) #[])
noncomputable def o195_25 (P : Params) : Obj :=
  (PySem.Obj.mk (PySem.Value.type "tuple") none (PySem.Data.seq #[(PySem.Value.str (PySem.Str.ofString "orders") 2390), (PySem.Value.str (PySem.Str.ofString "left") 2391), (PySem.Value.str (PySem.Str.ofString "gets") 2392), (PySem.Value.str (PySem.Str.ofString "path") 2393), (PySem.Value.str (PySem.Str.ofString "best") 2394), (PySem.Value.str (PySem.Str.ofString "order") 2395), (PySem.Value.str (PySem.Str.ofString "one") 2396), (PySem.Value.str (PySem.Str.ofString "ring") 2397), (PySem.Value.str (PySem.Str.ofString "k") 2398)] 0) #[])
noncomputable def o196_25 (P : Params) : Obj :=
  (PySem.Obj.mk (PySem.Value.type "tuple") none (PySem.Data.seq #[] 0) #[])
noncomputable def o197_25 (P : Params) : Obj :=
  (PySem.Obj.mk PySem.Value.none none (PySem.Data.func (PySem.FuncData.mk (PySem.Str.ofString "_law_traded") (PySem.Str.ofString "_law_traded") p24.1 (PySem.FuncBody.stmts b24.1) s24.1 0 [] PySem.Value.none PySem.Value.none PySem.Value.none PySem.Value.none none PySem.Value.none PySem.Value.none 0)) #[])
noncomputable def o198_25 (P : Params) : Obj :=
  (PySem.Obj.mk (PySem.Value.type "code") none (PySem.Data.fields #[(PySem.Value.str (PySem.Str.ofString "_law_traded") 2387), (PySem.Value.str (PySem.Str.ofString "_law_traded") 2388), (PySem.Value.str (PySem.Str.ofString "/claim/cut.py") 2389), (PySem.Value.int 125 0), (PySem.Value.int 1 0), (PySem.Value.int 0 0), (PySem.Value.int 0 0), (PySem.Value.int 3 0), (PySem.Value.ref 193), (PySem.Value.bool true), (PySem.Value.int 181 0), (PySem.Value.ref 194), PySem.Value.none, (PySem.Value.ref 195), (PySem.Value.ref 196), (PySem.Value.ref 197), (PySem.Value.int 2399 0), (PySem.Value.int 125 0), (PySem.Value.str (PySem.Str.ofString "/claim/cut.py") 2400)]) #[])
noncomputable def o199_25 (P : Params) : Obj :=
  (PySem.Obj.mk (PySem.Value.type "function") none (PySem.Data.func (PySem.FuncData.mk (PySem.Str.ofString "_law_traded") (PySem.Str.ofString "_law_traded") p24.1 (PySem.FuncBody.stmts b24.1) s24.1 3 [] PySem.Value.none PySem.Value.none PySem.Value.none (PySem.Value.str (PySem.Str.ofString "law_wr0050_01") 2362) none (PySem.Value.ref 198) PySem.Value.none 0)) #[])
noncomputable def o3_26 (P : Params) : Obj :=
  (PySem.Obj.mk (PySem.Value.type "dict") none (PySem.Data.dict #[(PySem.DictEntry.mk (PySem.PyData.keyHash P (PySem.Str.ofString "__name__")) (PySem.Value.str (PySem.Str.ofString "__name__") 165) (PySem.Value.str (PySem.Str.ofString "law_wr0050_01") 2362)), (PySem.DictEntry.mk (PySem.PyData.keyHash P (PySem.Str.ofString "__doc__")) (PySem.Value.str (PySem.Str.ofString "__doc__") 166) PySem.Value.none), (PySem.DictEntry.mk (PySem.PyData.keyHash P (PySem.Str.ofString "__package__")) (PySem.Value.str (PySem.Str.ofString "__package__") 167) PySem.Value.none), (PySem.DictEntry.mk (PySem.PyData.keyHash P (PySem.Str.ofString "__loader__")) (PySem.Value.str (PySem.Str.ofString "__loader__") 168) (PySem.Value.builtin "__main__.__loader__#opaque")), (PySem.DictEntry.mk (PySem.PyData.keyHash P (PySem.Str.ofString "__spec__")) (PySem.Value.str (PySem.Str.ofString "__spec__") 169) PySem.Value.none), (PySem.DictEntry.mk (PySem.PyData.keyHash P (PySem.Str.ofString "__annotations__")) (PySem.Value.str (PySem.Str.ofString "__annotations__") 170) (PySem.Value.ref 6)), (PySem.DictEntry.mk (PySem.PyData.keyHash P (PySem.Str.ofString "__builtins__")) (PySem.Value.str (PySem.Str.ofString "__builtins__") 171) (PySem.Value.ref 4)), (PySem.DictEntry.mk (PySem.PyData.keyHash P (PySem.Str.ofString "__file__")) (PySem.Value.str (PySem.Str.ofString "__file__") 173) (PySem.Value.str (PySem.Str.ofString "/claim/cut.py") 172)), (PySem.DictEntry.mk (PySem.PyData.keyHash P (PySem.Str.ofString "__cached__")) (PySem.Value.str (PySem.Str.ofString "__cached__") 174) PySem.Value.none), (PySem.DictEntry.mk (PySem.PyData.keyHash P (PySem.Str.ofString "b1_set")) (PySem.Value.str (PySem.Str.ofString "b1_set") 248) (PySem.Value.ref 22)), (PySem.DictEntry.mk (PySem.PyData.keyHash P (PySem.Str.ofString "in_table_b1")) (PySem.Value.str (PySem.Str.ofString "in_table_b1") 255) (PySem.Value.ref 32)), (PySem.DictEntry.mk (PySem.PyData.keyHash P (PySem.Str.ofString "b3_exceptions")) (PySem.Value.str (PySem.Str.ofString "b3_exceptions") 2206) (PySem.Value.ref 33)), (PySem.DictEntry.mk (PySem.PyData.keyHash P (PySem.Str.ofString "map_table_b3")) (PySem.Value.str (PySem.Str.ofString "map_table_b3") 2214) (PySem.Value.ref 78)), (PySem.DictEntry.mk (PySem.PyData.keyHash P (PySem.Str.ofString "ELLIPSIS_MARKER")) (PySem.Value.str (PySem.Str.ofString "ELLIPSIS_MARKER") 2218) (PySem.Value.str (PySem.Str.ofString "...") 2217)), (PySem.DictEntry.mk (PySem.PyData.keyHash P (PySem.Str.ofString "_ellipsis_match")) (PySem.Value.str (PySem.Str.ofString "_ellipsis_match") 2230) (PySem.Value.ref 85)), (PySem.DictEntry.mk (PySem.PyData.keyHash P (PySem.Str.ofString "Error")) (PySem.Value.str (PySem.Str.ofString "Error") 2252) (PySem.Value.ref 95)), (PySem.DictEntry.mk (PySem.PyData.keyHash P (PySem.Str.ofString "error_reply")) (PySem.Value.str (PySem.Str.ofString "error_reply") 2268) (PySem.Value.ref 108)), (PySem.DictEntry.mk (PySem.PyData.keyHash P (PySem.Str.ofString "error_proto")) (PySem.Value.str (PySem.Str.ofString "error_proto") 2284) (PySem.Value.ref 120)), (PySem.DictEntry.mk (PySem.PyData.keyHash P (PySem.Str.ofString "parse229")) (PySem.Value.str (PySem.Str.ofString "parse229") 2297) (PySem.Value.ref 129)), (PySem.DictEntry.mk (PySem.PyData.keyHash P (PySem.Str.ofString "parse257")) (PySem.Value.str (PySem.Str.ofString "parse257") 2308) (PySem.Value.ref 136)), (PySem.DictEntry.mk (PySem.PyData.keyHash P (PySem.Str.ofString "mod")) (PySem.Value.str (PySem.Str.ofString "mod") 2318) (PySem.Value.ref 143)), (PySem.DictEntry.mk (PySem.PyData.keyHash P (PySem.Str.ofString "contains")) (PySem.Value.str (PySem.Str.ofString "contains") 2326) (PySem.Value.ref 150)), (PySem.DictEntry.mk (PySem.PyData.keyHash P (PySem.Str.ofString "delitem")) (PySem.Value.str (PySem.Str.ofString "delitem") 2334) (PySem.Value.ref 157)), (PySem.DictEntry.mk (PySem.PyData.keyHash P (PySem.Str.ofString "getitem")) (PySem.Value.str (PySem.Str.ofString "getitem") 2342) (PySem.Value.ref 164)), (PySem.DictEntry.mk (PySem.PyData.keyHash P (PySem.Str.ofString "indexOf")) (PySem.Value.str (PySem.Str.ofString "indexOf") 2352) (PySem.Value.ref 171)), (PySem.DictEntry.mk (PySem.PyData.keyHash P (PySem.Str.ofString "setitem")) (PySem.Value.str (PySem.Str.ofString "setitem") 2361) (PySem.Value.ref 178)), (PySem.DictEntry.mk (PySem.PyData.keyHash P (PySem.Str.ofString "_law_order")) (PySem.Value.str (PySem.Str.ofString "_law_order") 2373) (PySem.Value.ref 185)), (PySem.DictEntry.mk (PySem.PyData.keyHash P (PySem.Str.ofString "_law_dressed")) (PySem.Value.str (PySem.Str.ofString "_law_dressed") 2386) (PySem.Value.ref 192)), (PySem.DictEntry.mk (PySem.PyData.keyHash P (PySem.Str.ofString "_law_traded")) (PySem.Value.str (PySem.Str.ofString "_law_traded") 2401) (PySem.Value.ref 199)), (PySem.DictEntry.mk (PySem.PyData.keyHash P (PySem.Str.ofString "_law_bettered")) (PySem.Value.str (PySem.Str.ofString "_law_bettered") 2407) (PySem.Value.ref 204))] 30) #[])
noncomputable def o12_26 (P : Params) : Obj :=
  (PySem.Obj.mk PySem.Value.none none (PySem.Data.fields #[(PySem.Value.int 3 0), (PySem.Value.int 0 0), (PySem.Value.ref 31), (PySem.Value.int 6 0), (PySem.Value.int 0 0), (PySem.Value.ref 77), (PySem.Value.int 13 0), (PySem.Value.int 0 0), (PySem.Value.ref 84), (PySem.Value.int 42 0), (PySem.Value.int 0 0), (PySem.Value.ref 91), (PySem.Value.int 44 0), (PySem.Value.int 0 0), (PySem.Value.ref 104), (PySem.Value.int 46 0), (PySem.Value.int 0 0), (PySem.Value.ref 116), (PySem.Value.int 48 0), (PySem.Value.int 0 0), (PySem.Value.ref 128), (PySem.Value.int 65 0), (PySem.Value.int 0 0), (PySem.Value.ref 135), (PySem.Value.int 83 0), (PySem.Value.int 0 0), (PySem.Value.ref 142), (PySem.Value.int 85 0), (PySem.Value.int 0 0), (PySem.Value.ref 149), (PySem.Value.int 87 0), (PySem.Value.int 0 0), (PySem.Value.ref 156), (PySem.Value.int 89 0), (PySem.Value.int 0 0), (PySem.Value.ref 163), (PySem.Value.int 91 0), (PySem.Value.int 0 0), (PySem.Value.ref 170), (PySem.Value.int 97 0), (PySem.Value.int 0 0), (PySem.Value.ref 177), (PySem.Value.int 100 0), (PySem.Value.int 0 0), (PySem.Value.ref 184), (PySem.Value.int 108 0), (PySem.Value.int 0 0), (PySem.Value.ref 191), (PySem.Value.int 125 0), (PySem.Value.int 0 0), (PySem.Value.ref 198), (PySem.Value.int 145 0), (PySem.Value.int 0 0), (PySem.Value.ref 203)]) #[])
noncomputable def o200_26 (P : Params) : Obj :=
  (PySem.Obj.mk (PySem.Value.type "tuple") none (PySem.Data.seq #[] 0) #[])
noncomputable def o201_26 (P : Params) : Obj :=
  (PySem.Obj.mk PySem.Value.none none (PySem.Data.fields #[]) #[])
noncomputable def o202_26 (P : Params) : Obj :=
  (PySem.Obj.mk PySem.Value.none none (PySem.Data.func (PySem.FuncData.mk (PySem.Str.ofString "_law_bettered") (PySem.Str.ofString "_law_bettered") p25.1 (PySem.FuncBody.stmts b25.1) s25.1 0 [] PySem.Value.none PySem.Value.none PySem.Value.none PySem.Value.none none PySem.Value.none PySem.Value.none 0)) #[])
noncomputable def o203_26 (P : Params) : Obj :=
  (PySem.Obj.mk (PySem.Value.type "code") none (PySem.Data.fields #[(PySem.Value.str (PySem.Str.ofString "_law_bettered") 2402), (PySem.Value.str (PySem.Str.ofString "_law_bettered") 2403), (PySem.Value.str (PySem.Str.ofString "/claim/cut.py") 2404), (PySem.Value.int 145 0), (PySem.Value.int 2 0), (PySem.Value.int 0 0), (PySem.Value.int 0 0), (PySem.Value.int 3 0), (PySem.Value.ref 200), (PySem.Value.bool true), (PySem.Value.int 181 0), (PySem.Value.ref 201), PySem.Value.none, PySem.Value.none, PySem.Value.none, (PySem.Value.ref 202), (PySem.Value.int 2405 0), (PySem.Value.int 145 0), (PySem.Value.str (PySem.Str.ofString "/claim/cut.py") 2406)]) #[])
noncomputable def o204_26 (P : Params) : Obj :=
  (PySem.Obj.mk (PySem.Value.type "function") none (PySem.Data.func (PySem.FuncData.mk (PySem.Str.ofString "_law_bettered") (PySem.Str.ofString "_law_bettered") p25.1 (PySem.FuncBody.stmts b25.1) s25.1 3 [] PySem.Value.none PySem.Value.none PySem.Value.none (PySem.Value.str (PySem.Str.ofString "law_wr0050_01") 2362) none (PySem.Value.ref 203) PySem.Value.none 0)) #[])
noncomputable def o3_27 (P : Params) : Obj :=
  (PySem.Obj.mk (PySem.Value.type "dict") none (PySem.Data.dict #[(PySem.DictEntry.mk (PySem.PyData.keyHash P (PySem.Str.ofString "__name__")) (PySem.Value.str (PySem.Str.ofString "__name__") 165) (PySem.Value.str (PySem.Str.ofString "law_wr0050_01") 2362)), (PySem.DictEntry.mk (PySem.PyData.keyHash P (PySem.Str.ofString "__doc__")) (PySem.Value.str (PySem.Str.ofString "__doc__") 166) PySem.Value.none), (PySem.DictEntry.mk (PySem.PyData.keyHash P (PySem.Str.ofString "__package__")) (PySem.Value.str (PySem.Str.ofString "__package__") 167) PySem.Value.none), (PySem.DictEntry.mk (PySem.PyData.keyHash P (PySem.Str.ofString "__loader__")) (PySem.Value.str (PySem.Str.ofString "__loader__") 168) (PySem.Value.builtin "__main__.__loader__#opaque")), (PySem.DictEntry.mk (PySem.PyData.keyHash P (PySem.Str.ofString "__spec__")) (PySem.Value.str (PySem.Str.ofString "__spec__") 169) PySem.Value.none), (PySem.DictEntry.mk (PySem.PyData.keyHash P (PySem.Str.ofString "__annotations__")) (PySem.Value.str (PySem.Str.ofString "__annotations__") 170) (PySem.Value.ref 6)), (PySem.DictEntry.mk (PySem.PyData.keyHash P (PySem.Str.ofString "__builtins__")) (PySem.Value.str (PySem.Str.ofString "__builtins__") 171) (PySem.Value.ref 4)), (PySem.DictEntry.mk (PySem.PyData.keyHash P (PySem.Str.ofString "__file__")) (PySem.Value.str (PySem.Str.ofString "__file__") 173) (PySem.Value.str (PySem.Str.ofString "/claim/cut.py") 172)), (PySem.DictEntry.mk (PySem.PyData.keyHash P (PySem.Str.ofString "__cached__")) (PySem.Value.str (PySem.Str.ofString "__cached__") 174) PySem.Value.none), (PySem.DictEntry.mk (PySem.PyData.keyHash P (PySem.Str.ofString "b1_set")) (PySem.Value.str (PySem.Str.ofString "b1_set") 248) (PySem.Value.ref 22)), (PySem.DictEntry.mk (PySem.PyData.keyHash P (PySem.Str.ofString "in_table_b1")) (PySem.Value.str (PySem.Str.ofString "in_table_b1") 255) (PySem.Value.ref 32)), (PySem.DictEntry.mk (PySem.PyData.keyHash P (PySem.Str.ofString "b3_exceptions")) (PySem.Value.str (PySem.Str.ofString "b3_exceptions") 2206) (PySem.Value.ref 33)), (PySem.DictEntry.mk (PySem.PyData.keyHash P (PySem.Str.ofString "map_table_b3")) (PySem.Value.str (PySem.Str.ofString "map_table_b3") 2214) (PySem.Value.ref 78)), (PySem.DictEntry.mk (PySem.PyData.keyHash P (PySem.Str.ofString "ELLIPSIS_MARKER")) (PySem.Value.str (PySem.Str.ofString "ELLIPSIS_MARKER") 2218) (PySem.Value.str (PySem.Str.ofString "...") 2217)), (PySem.DictEntry.mk (PySem.PyData.keyHash P (PySem.Str.ofString "_ellipsis_match")) (PySem.Value.str (PySem.Str.ofString "_ellipsis_match") 2230) (PySem.Value.ref 85)), (PySem.DictEntry.mk (PySem.PyData.keyHash P (PySem.Str.ofString "Error")) (PySem.Value.str (PySem.Str.ofString "Error") 2252) (PySem.Value.ref 95)), (PySem.DictEntry.mk (PySem.PyData.keyHash P (PySem.Str.ofString "error_reply")) (PySem.Value.str (PySem.Str.ofString "error_reply") 2268) (PySem.Value.ref 108)), (PySem.DictEntry.mk (PySem.PyData.keyHash P (PySem.Str.ofString "error_proto")) (PySem.Value.str (PySem.Str.ofString "error_proto") 2284) (PySem.Value.ref 120)), (PySem.DictEntry.mk (PySem.PyData.keyHash P (PySem.Str.ofString "parse229")) (PySem.Value.str (PySem.Str.ofString "parse229") 2297) (PySem.Value.ref 129)), (PySem.DictEntry.mk (PySem.PyData.keyHash P (PySem.Str.ofString "parse257")) (PySem.Value.str (PySem.Str.ofString "parse257") 2308) (PySem.Value.ref 136)), (PySem.DictEntry.mk (PySem.PyData.keyHash P (PySem.Str.ofString "mod")) (PySem.Value.str (PySem.Str.ofString "mod") 2318) (PySem.Value.ref 143)), (PySem.DictEntry.mk (PySem.PyData.keyHash P (PySem.Str.ofString "contains")) (PySem.Value.str (PySem.Str.ofString "contains") 2326) (PySem.Value.ref 150)), (PySem.DictEntry.mk (PySem.PyData.keyHash P (PySem.Str.ofString "delitem")) (PySem.Value.str (PySem.Str.ofString "delitem") 2334) (PySem.Value.ref 157)), (PySem.DictEntry.mk (PySem.PyData.keyHash P (PySem.Str.ofString "getitem")) (PySem.Value.str (PySem.Str.ofString "getitem") 2342) (PySem.Value.ref 164)), (PySem.DictEntry.mk (PySem.PyData.keyHash P (PySem.Str.ofString "indexOf")) (PySem.Value.str (PySem.Str.ofString "indexOf") 2352) (PySem.Value.ref 171)), (PySem.DictEntry.mk (PySem.PyData.keyHash P (PySem.Str.ofString "setitem")) (PySem.Value.str (PySem.Str.ofString "setitem") 2361) (PySem.Value.ref 178)), (PySem.DictEntry.mk (PySem.PyData.keyHash P (PySem.Str.ofString "_law_order")) (PySem.Value.str (PySem.Str.ofString "_law_order") 2373) (PySem.Value.ref 185)), (PySem.DictEntry.mk (PySem.PyData.keyHash P (PySem.Str.ofString "_law_dressed")) (PySem.Value.str (PySem.Str.ofString "_law_dressed") 2386) (PySem.Value.ref 192)), (PySem.DictEntry.mk (PySem.PyData.keyHash P (PySem.Str.ofString "_law_traded")) (PySem.Value.str (PySem.Str.ofString "_law_traded") 2401) (PySem.Value.ref 199)), (PySem.DictEntry.mk (PySem.PyData.keyHash P (PySem.Str.ofString "_law_bettered")) (PySem.Value.str (PySem.Str.ofString "_law_bettered") 2407) (PySem.Value.ref 204)), (PySem.DictEntry.mk (PySem.PyData.keyHash P (PySem.Str.ofString "law")) (PySem.Value.str (PySem.Str.ofString "law") 2413) (PySem.Value.ref 209))] 31) #[])
noncomputable def o12_27 (P : Params) : Obj :=
  (PySem.Obj.mk PySem.Value.none none (PySem.Data.fields #[(PySem.Value.int 3 0), (PySem.Value.int 0 0), (PySem.Value.ref 31), (PySem.Value.int 6 0), (PySem.Value.int 0 0), (PySem.Value.ref 77), (PySem.Value.int 13 0), (PySem.Value.int 0 0), (PySem.Value.ref 84), (PySem.Value.int 42 0), (PySem.Value.int 0 0), (PySem.Value.ref 91), (PySem.Value.int 44 0), (PySem.Value.int 0 0), (PySem.Value.ref 104), (PySem.Value.int 46 0), (PySem.Value.int 0 0), (PySem.Value.ref 116), (PySem.Value.int 48 0), (PySem.Value.int 0 0), (PySem.Value.ref 128), (PySem.Value.int 65 0), (PySem.Value.int 0 0), (PySem.Value.ref 135), (PySem.Value.int 83 0), (PySem.Value.int 0 0), (PySem.Value.ref 142), (PySem.Value.int 85 0), (PySem.Value.int 0 0), (PySem.Value.ref 149), (PySem.Value.int 87 0), (PySem.Value.int 0 0), (PySem.Value.ref 156), (PySem.Value.int 89 0), (PySem.Value.int 0 0), (PySem.Value.ref 163), (PySem.Value.int 91 0), (PySem.Value.int 0 0), (PySem.Value.ref 170), (PySem.Value.int 97 0), (PySem.Value.int 0 0), (PySem.Value.ref 177), (PySem.Value.int 100 0), (PySem.Value.int 0 0), (PySem.Value.ref 184), (PySem.Value.int 108 0), (PySem.Value.int 0 0), (PySem.Value.ref 191), (PySem.Value.int 125 0), (PySem.Value.int 0 0), (PySem.Value.ref 198), (PySem.Value.int 145 0), (PySem.Value.int 0 0), (PySem.Value.ref 203), (PySem.Value.int 154 0), (PySem.Value.int 0 0), (PySem.Value.ref 208)]) #[])
noncomputable def o205_27 (P : Params) : Obj :=
  (PySem.Obj.mk (PySem.Value.type "tuple") none (PySem.Data.seq #[] 0) #[])
noncomputable def o206_27 (P : Params) : Obj :=
  (PySem.Obj.mk PySem.Value.none none (PySem.Data.fields #[]) #[])
noncomputable def o207_27 (P : Params) : Obj :=
  (PySem.Obj.mk PySem.Value.none none (PySem.Data.func (PySem.FuncData.mk (PySem.Str.ofString "law") (PySem.Str.ofString "law") p26.1 (PySem.FuncBody.stmts b26.1) s26.1 0 [] PySem.Value.none PySem.Value.none PySem.Value.none PySem.Value.none none PySem.Value.none PySem.Value.none 0)) #[])
noncomputable def o208_27 (P : Params) : Obj :=
  (PySem.Obj.mk (PySem.Value.type "code") none (PySem.Data.fields #[(PySem.Value.str (PySem.Str.ofString "law") 2408), (PySem.Value.str (PySem.Str.ofString "law") 2409), (PySem.Value.str (PySem.Str.ofString "/claim/cut.py") 2410), (PySem.Value.int 154 0), (PySem.Value.int 1 0), (PySem.Value.int 0 0), (PySem.Value.int 0 0), (PySem.Value.int 3 0), (PySem.Value.ref 205), (PySem.Value.bool true), (PySem.Value.int 181 0), (PySem.Value.ref 206), PySem.Value.none, PySem.Value.none, PySem.Value.none, (PySem.Value.ref 207), (PySem.Value.int 2411 0), (PySem.Value.int 154 0), (PySem.Value.str (PySem.Str.ofString "/claim/cut.py") 2412)]) #[])
noncomputable def o209_27 (P : Params) : Obj :=
  (PySem.Obj.mk (PySem.Value.type "function") none (PySem.Data.func (PySem.FuncData.mk (PySem.Str.ofString "law") (PySem.Str.ofString "law") p26.1 (PySem.FuncBody.stmts b26.1) s26.1 3 [] PySem.Value.none PySem.Value.none PySem.Value.none (PySem.Value.str (PySem.Str.ofString "law_wr0050_01") 2362) none (PySem.Value.ref 208) PySem.Value.none 0)) #[])
noncomputable def hp0 (P : Params) : Heap := ⟨⟨[boot_o_0 P, boot_o_1 P, boot_o_2 P, boot_o_3 P, boot_o_4 P, boot_o_5 P, boot_o_6 P, boot_o_7 P, boot_o_8 P, boot_o_9 P, boot_o_10 P, o11_0 P, o12_0 P, o13_0 P, o14_0 P]⟩, life0⟩
noncomputable def hp1 (P : Params) : Heap := ⟨⟨[boot_o_0 P, boot_o_1 P, boot_o_2 P, o3_1 P, boot_o_4 P, boot_o_5 P, boot_o_6 P, boot_o_7 P, boot_o_8 P, boot_o_9 P, boot_o_10 P, o11_0 P, o12_0 P, o13_0 P, o14_0 P]⟩, life0⟩
noncomputable def hp2 (P : Params) : Heap := ⟨⟨[boot_o_0 P, boot_o_1 P, boot_o_2 P, o3_2 P, boot_o_4 P, boot_o_5 P, boot_o_6 P, boot_o_7 P, boot_o_8 P, boot_o_9 P, boot_o_10 P, o11_0 P, o12_0 P, o13_0 P, o14_0 P, o15_2 P, o16_2 P, o17_2 P, o18_2 P, o19_2 P, o20_2 P, o21_2 P, o22_2 P, o23_2 P, o24_2 P, o25_2 P]⟩, life0⟩
noncomputable def hp3 (P : Params) : Heap := ⟨⟨[boot_o_0 P, boot_o_1 P, boot_o_2 P, o3_3 P, boot_o_4 P, boot_o_5 P, boot_o_6 P, boot_o_7 P, boot_o_8 P, boot_o_9 P, boot_o_10 P, o11_0 P, o12_3 P, o13_0 P, o14_0 P, o15_2 P, o16_2 P, o17_2 P, o18_2 P, o19_2 P, o20_2 P, o21_2 P, o22_2 P, o23_2 P, o24_2 P, o25_2 P, o26_3 P, o27_3 P, o28_3 P, o29_3 P, o30_3 P, o31_3 P, o32_3 P]⟩, life0⟩
noncomputable def hp4 (P : Params) : Heap := ⟨⟨[boot_o_0 P, boot_o_1 P, boot_o_2 P, o3_4 P, boot_o_4 P, boot_o_5 P, boot_o_6 P, boot_o_7 P, boot_o_8 P, boot_o_9 P, boot_o_10 P, o11_0 P, o12_3 P, o13_0 P, o14_0 P, o15_2 P, o16_2 P, o17_2 P, o18_2 P, o19_2 P, o20_2 P, o21_2 P, o22_2 P, o23_2 P, o24_2 P, o25_2 P, o26_3 P, o27_3 P, o28_3 P, o29_3 P, o30_3 P, o31_3 P, o32_3 P, o33_4 P, o34_4 P, o35_4 P, o36_4 P, o37_4 P, o38_4 P, o39_4 P, o40_4 P, o41_4 P, o42_4 P, o43_4 P, o44_4 P, o45_4 P, o46_4 P, o47_4 P, o48_4 P, o49_4 P, o50_4 P, o51_4 P, o52_4 P, o53_4 P, o54_4 P, o55_4 P, o56_4 P, o57_4 P, o58_4 P, o59_4 P, o60_4 P, o61_4 P, o62_4 P, o63_4 P, o64_4 P, o65_4 P, o66_4 P, o67_4 P, o68_4 P, o69_4 P, o70_4 P, o71_4 P]⟩, life0⟩
noncomputable def hp5 (P : Params) : Heap := ⟨⟨[boot_o_0 P, boot_o_1 P, boot_o_2 P, o3_5 P, boot_o_4 P, boot_o_5 P, boot_o_6 P, boot_o_7 P, boot_o_8 P, boot_o_9 P, boot_o_10 P, o11_0 P, o12_5 P, o13_0 P, o14_0 P, o15_2 P, o16_2 P, o17_2 P, o18_2 P, o19_2 P, o20_2 P, o21_2 P, o22_2 P, o23_2 P, o24_2 P, o25_2 P, o26_3 P, o27_3 P, o28_3 P, o29_3 P, o30_3 P, o31_3 P, o32_3 P, o33_4 P, o34_4 P, o35_4 P, o36_4 P, o37_4 P, o38_4 P, o39_4 P, o40_4 P, o41_4 P, o42_4 P, o43_4 P, o44_4 P, o45_4 P, o46_4 P, o47_4 P, o48_4 P, o49_4 P, o50_4 P, o51_4 P, o52_4 P, o53_4 P, o54_4 P, o55_4 P, o56_4 P, o57_4 P, o58_4 P, o59_4 P, o60_4 P, o61_4 P, o62_4 P, o63_4 P, o64_4 P, o65_4 P, o66_4 P, o67_4 P, o68_4 P, o69_4 P, o70_4 P, o71_4 P, o72_5 P, o73_5 P, o74_5 P, o75_5 P, o76_5 P, o77_5 P, o78_5 P]⟩, life0⟩
noncomputable def hp6 (P : Params) : Heap := ⟨⟨[boot_o_0 P, boot_o_1 P, boot_o_2 P, o3_6 P, boot_o_4 P, boot_o_5 P, boot_o_6 P, boot_o_7 P, boot_o_8 P, boot_o_9 P, boot_o_10 P, o11_0 P, o12_5 P, o13_0 P, o14_0 P, o15_2 P, o16_2 P, o17_2 P, o18_2 P, o19_2 P, o20_2 P, o21_2 P, o22_2 P, o23_2 P, o24_2 P, o25_2 P, o26_3 P, o27_3 P, o28_3 P, o29_3 P, o30_3 P, o31_3 P, o32_3 P, o33_4 P, o34_4 P, o35_4 P, o36_4 P, o37_4 P, o38_4 P, o39_4 P, o40_4 P, o41_4 P, o42_4 P, o43_4 P, o44_4 P, o45_4 P, o46_4 P, o47_4 P, o48_4 P, o49_4 P, o50_4 P, o51_4 P, o52_4 P, o53_4 P, o54_4 P, o55_4 P, o56_4 P, o57_4 P, o58_4 P, o59_4 P, o60_4 P, o61_4 P, o62_4 P, o63_4 P, o64_4 P, o65_4 P, o66_4 P, o67_4 P, o68_4 P, o69_4 P, o70_4 P, o71_4 P, o72_5 P, o73_5 P, o74_5 P, o75_5 P, o76_5 P, o77_5 P, o78_5 P]⟩, life0⟩
noncomputable def hp7 (P : Params) : Heap := ⟨⟨[boot_o_0 P, boot_o_1 P, boot_o_2 P, o3_7 P, boot_o_4 P, boot_o_5 P, boot_o_6 P, boot_o_7 P, boot_o_8 P, boot_o_9 P, boot_o_10 P, o11_0 P, o12_5 P, o13_0 P, o14_0 P, o15_2 P, o16_2 P, o17_2 P, o18_2 P, o19_2 P, o20_2 P, o21_2 P, o22_2 P, o23_2 P, o24_2 P, o25_2 P, o26_3 P, o27_3 P, o28_3 P, o29_3 P, o30_3 P, o31_3 P, o32_3 P, o33_4 P, o34_4 P, o35_4 P, o36_4 P, o37_4 P, o38_4 P, o39_4 P, o40_4 P, o41_4 P, o42_4 P, o43_4 P, o44_4 P, o45_4 P, o46_4 P, o47_4 P, o48_4 P, o49_4 P, o50_4 P, o51_4 P, o52_4 P, o53_4 P, o54_4 P, o55_4 P, o56_4 P, o57_4 P, o58_4 P, o59_4 P, o60_4 P, o61_4 P, o62_4 P, o63_4 P, o64_4 P, o65_4 P, o66_4 P, o67_4 P, o68_4 P, o69_4 P, o70_4 P, o71_4 P, o72_5 P, o73_5 P, o74_5 P, o75_5 P, o76_5 P, o77_5 P, o78_5 P]⟩, life0⟩
noncomputable def hp8 (P : Params) : Heap := ⟨⟨[boot_o_0 P, boot_o_1 P, boot_o_2 P, o3_8 P, boot_o_4 P, boot_o_5 P, boot_o_6 P, boot_o_7 P, boot_o_8 P, boot_o_9 P, boot_o_10 P, o11_0 P, o12_8 P, o13_0 P, o14_0 P, o15_2 P, o16_2 P, o17_2 P, o18_2 P, o19_2 P, o20_2 P, o21_2 P, o22_2 P, o23_2 P, o24_2 P, o25_2 P, o26_3 P, o27_3 P, o28_3 P, o29_3 P, o30_3 P, o31_3 P, o32_3 P, o33_4 P, o34_4 P, o35_4 P, o36_4 P, o37_4 P, o38_4 P, o39_4 P, o40_4 P, o41_4 P, o42_4 P, o43_4 P, o44_4 P, o45_4 P, o46_4 P, o47_4 P, o48_4 P, o49_4 P, o50_4 P, o51_4 P, o52_4 P, o53_4 P, o54_4 P, o55_4 P, o56_4 P, o57_4 P, o58_4 P, o59_4 P, o60_4 P, o61_4 P, o62_4 P, o63_4 P, o64_4 P, o65_4 P, o66_4 P, o67_4 P, o68_4 P, o69_4 P, o70_4 P, o71_4 P, o72_5 P, o73_5 P, o74_5 P, o75_5 P, o76_5 P, o77_5 P, o78_5 P, o79_8 P, o80_8 P, o81_8 P, o82_8 P, o83_8 P, o84_8 P, o85_8 P]⟩, life0⟩
noncomputable def hp9 (P : Params) : Heap := ⟨⟨[boot_o_0 P, boot_o_1 P, boot_o_2 P, o3_9 P, boot_o_4 P, boot_o_5 P, boot_o_6 P, boot_o_7 P, boot_o_8 P, boot_o_9 P, boot_o_10 P, o11_0 P, o12_8 P, o13_0 P, o14_0 P, o15_2 P, o16_2 P, o17_2 P, o18_2 P, o19_2 P, o20_2 P, o21_2 P, o22_2 P, o23_2 P, o24_2 P, o25_2 P, o26_3 P, o27_3 P, o28_3 P, o29_3 P, o30_3 P, o31_3 P, o32_3 P, o33_4 P, o34_4 P, o35_4 P, o36_4 P, o37_4 P, o38_4 P, o39_4 P, o40_4 P, o41_4 P, o42_4 P, o43_4 P, o44_4 P, o45_4 P, o46_4 P, o47_4 P, o48_4 P, o49_4 P, o50_4 P, o51_4 P, o52_4 P, o53_4 P, o54_4 P, o55_4 P, o56_4 P, o57_4 P, o58_4 P, o59_4 P, o60_4 P, o61_4 P, o62_4 P, o63_4 P, o64_4 P, o65_4 P, o66_4 P, o67_4 P, o68_4 P, o69_4 P, o70_4 P, o71_4 P, o72_5 P, o73_5 P, o74_5 P, o75_5 P, o76_5 P, o77_5 P, o78_5 P, o79_8 P, o80_8 P, o81_8 P, o82_8 P, o83_8 P, o84_8 P, o85_8 P]⟩, life0⟩
noncomputable def hp10 (P : Params) : Heap := ⟨⟨[boot_o_0 P, boot_o_1 P, o2_10 P, o3_10 P, boot_o_4 P, boot_o_5 P, boot_o_6 P, boot_o_7 P, boot_o_8 P, boot_o_9 P, boot_o_10 P, o11_0 P, o12_10 P, o13_0 P, o14_0 P, o15_2 P, o16_2 P, o17_2 P, o18_2 P, o19_2 P, o20_2 P, o21_2 P, o22_2 P, o23_2 P, o24_2 P, o25_2 P, o26_3 P, o27_3 P, o28_3 P, o29_3 P, o30_3 P, o31_3 P, o32_3 P, o33_4 P, o34_4 P, o35_4 P, o36_4 P, o37_4 P, o38_4 P, o39_4 P, o40_4 P, o41_4 P, o42_4 P, o43_4 P, o44_4 P, o45_4 P, o46_4 P, o47_4 P, o48_4 P, o49_4 P, o50_4 P, o51_4 P, o52_4 P, o53_4 P, o54_4 P, o55_4 P, o56_4 P, o57_4 P, o58_4 P, o59_4 P, o60_4 P, o61_4 P, o62_4 P, o63_4 P, o64_4 P, o65_4 P, o66_4 P, o67_4 P, o68_4 P, o69_4 P, o70_4 P, o71_4 P, o72_5 P, o73_5 P, o74_5 P, o75_5 P, o76_5 P, o77_5 P, o78_5 P, o79_8 P, o80_8 P, o81_8 P, o82_8 P, o83_8 P, o84_8 P, o85_8 P, o86_10 P, o87_10 P, o88_10 P, o89_10 P, o90_10 P, o91_10 P, o92_10 P, o93_10 P, o94_10 P, o95_10 P, o96_10 P, o97_10 P, o98_10 P]⟩, life0⟩
noncomputable def hp11 (P : Params) : Heap := ⟨⟨[boot_o_0 P, boot_o_1 P, o2_10 P, o3_11 P, boot_o_4 P, boot_o_5 P, boot_o_6 P, boot_o_7 P, boot_o_8 P, boot_o_9 P, boot_o_10 P, o11_0 P, o12_11 P, o13_0 P, o14_0 P, o15_2 P, o16_2 P, o17_2 P, o18_2 P, o19_2 P, o20_2 P, o21_2 P, o22_2 P, o23_2 P, o24_2 P, o25_2 P, o26_3 P, o27_3 P, o28_3 P, o29_3 P, o30_3 P, o31_3 P, o32_3 P, o33_4 P, o34_4 P, o35_4 P, o36_4 P, o37_4 P, o38_4 P, o39_4 P, o40_4 P, o41_4 P, o42_4 P, o43_4 P, o44_4 P, o45_4 P, o46_4 P, o47_4 P, o48_4 P, o49_4 P, o50_4 P, o51_4 P, o52_4 P, o53_4 P, o54_4 P, o55_4 P, o56_4 P, o57_4 P, o58_4 P, o59_4 P, o60_4 P, o61_4 P, o62_4 P, o63_4 P, o64_4 P, o65_4 P, o66_4 P, o67_4 P, o68_4 P, o69_4 P, o70_4 P, o71_4 P, o72_5 P, o73_5 P, o74_5 P, o75_5 P, o76_5 P, o77_5 P, o78_5 P, o79_8 P, o80_8 P, o81_8 P, o82_8 P, o83_8 P, o84_8 P, o85_8 P, o86_10 P, o87_10 P, o88_10 P, o89_10 P, o90_10 P, o91_10 P, o92_10 P, o93_10 P, o94_10 P, o95_11 P, o96_10 P, o97_10 P, o98_10 P, o99_11 P, o100_11 P, o101_11 P, o102_11 P, o103_11 P, o104_11 P, o105_11 P, o106_11 P, o107_11 P, o108_11 P, o109_11 P, o110_11 P]⟩, life0⟩
noncomputable def hp12 (P : Params) : Heap := ⟨⟨[boot_o_0 P, boot_o_1 P, o2_10 P, o3_12 P, boot_o_4 P, boot_o_5 P, boot_o_6 P, boot_o_7 P, boot_o_8 P, boot_o_9 P, boot_o_10 P, o11_0 P, o12_12 P, o13_0 P, o14_0 P, o15_2 P, o16_2 P, o17_2 P, o18_2 P, o19_2 P, o20_2 P, o21_2 P, o22_2 P, o23_2 P, o24_2 P, o25_2 P, o26_3 P, o27_3 P, o28_3 P, o29_3 P, o30_3 P, o31_3 P, o32_3 P, o33_4 P, o34_4 P, o35_4 P, o36_4 P, o37_4 P, o38_4 P, o39_4 P, o40_4 P, o41_4 P, o42_4 P, o43_4 P, o44_4 P, o45_4 P, o46_4 P, o47_4 P, o48_4 P, o49_4 P, o50_4 P, o51_4 P, o52_4 P, o53_4 P, o54_4 P, o55_4 P, o56_4 P, o57_4 P, o58_4 P, o59_4 P, o60_4 P, o61_4 P, o62_4 P, o63_4 P, o64_4 P, o65_4 P, o66_4 P, o67_4 P, o68_4 P, o69_4 P, o70_4 P, o71_4 P, o72_5 P, o73_5 P, o74_5 P, o75_5 P, o76_5 P, o77_5 P, o78_5 P, o79_8 P, o80_8 P, o81_8 P, o82_8 P, o83_8 P, o84_8 P, o85_8 P, o86_10 P, o87_10 P, o88_10 P, o89_10 P, o90_10 P, o91_10 P, o92_10 P, o93_10 P, o94_10 P, o95_12 P, o96_10 P, o97_10 P, o98_10 P, o99_11 P, o100_11 P, o101_11 P, o102_11 P, o103_11 P, o104_11 P, o105_11 P, o106_11 P, o107_11 P, o108_11 P, o109_11 P, o110_11 P, o111_12 P, o112_12 P, o113_12 P, o114_12 P, o115_12 P, o116_12 P, o117_12 P, o118_12 P, o119_12 P, o120_12 P, o121_12 P, o122_12 P]⟩, life0⟩
noncomputable def hp13 (P : Params) : Heap := ⟨⟨[boot_o_0 P, boot_o_1 P, o2_10 P, o3_13 P, boot_o_4 P, boot_o_5 P, boot_o_6 P, boot_o_7 P, boot_o_8 P, boot_o_9 P, boot_o_10 P, o11_0 P, o12_13 P, o13_0 P, o14_0 P, o15_2 P, o16_2 P, o17_2 P, o18_2 P, o19_2 P, o20_2 P, o21_2 P, o22_2 P, o23_2 P, o24_2 P, o25_2 P, o26_3 P, o27_3 P, o28_3 P, o29_3 P, o30_3 P, o31_3 P, o32_3 P, o33_4 P, o34_4 P, o35_4 P, o36_4 P, o37_4 P, o38_4 P, o39_4 P, o40_4 P, o41_4 P, o42_4 P, o43_4 P, o44_4 P, o45_4 P, o46_4 P, o47_4 P, o48_4 P, o49_4 P, o50_4 P, o51_4 P, o52_4 P, o53_4 P, o54_4 P, o55_4 P, o56_4 P, o57_4 P, o58_4 P, o59_4 P, o60_4 P, o61_4 P, o62_4 P, o63_4 P, o64_4 P, o65_4 P, o66_4 P, o67_4 P, o68_4 P, o69_4 P, o70_4 P, o71_4 P, o72_5 P, o73_5 P, o74_5 P, o75_5 P, o76_5 P, o77_5 P, o78_5 P, o79_8 P, o80_8 P, o81_8 P, o82_8 P, o83_8 P, o84_8 P, o85_8 P, o86_10 P, o87_10 P, o88_10 P, o89_10 P, o90_10 P, o91_10 P, o92_10 P, o93_10 P, o94_10 P, o95_12 P, o96_10 P, o97_10 P, o98_10 P, o99_11 P, o100_11 P, o101_11 P, o102_11 P, o103_11 P, o104_11 P, o105_11 P, o106_11 P, o107_11 P, o108_11 P, o109_11 P, o110_11 P, o111_12 P, o112_12 P, o113_12 P, o114_12 P, o115_12 P, o116_12 P, o117_12 P, o118_12 P, o119_12 P, o120_12 P, o121_12 P, o122_12 P, o123_13 P, o124_13 P, o125_13 P, o126_13 P, o127_13 P, o128_13 P, o129_13 P]⟩, life0⟩
noncomputable def hp14 (P : Params) : Heap := ⟨⟨[boot_o_0 P, boot_o_1 P, o2_10 P, o3_14 P, boot_o_4 P, boot_o_5 P, boot_o_6 P, boot_o_7 P, boot_o_8 P, boot_o_9 P, boot_o_10 P, o11_0 P, o12_14 P, o13_0 P, o14_0 P, o15_2 P, o16_2 P, o17_2 P, o18_2 P, o19_2 P, o20_2 P, o21_2 P, o22_2 P, o23_2 P, o24_2 P, o25_2 P, o26_3 P, o27_3 P, o28_3 P, o29_3 P, o30_3 P, o31_3 P, o32_3 P, o33_4 P, o34_4 P, o35_4 P, o36_4 P, o37_4 P, o38_4 P, o39_4 P, o40_4 P, o41_4 P, o42_4 P, o43_4 P, o44_4 P, o45_4 P, o46_4 P, o47_4 P, o48_4 P, o49_4 P, o50_4 P, o51_4 P, o52_4 P, o53_4 P, o54_4 P, o55_4 P, o56_4 P, o57_4 P, o58_4 P, o59_4 P, o60_4 P, o61_4 P, o62_4 P, o63_4 P, o64_4 P, o65_4 P, o66_4 P, o67_4 P, o68_4 P, o69_4 P, o70_4 P, o71_4 P, o72_5 P, o73_5 P, o74_5 P, o75_5 P, o76_5 P, o77_5 P, o78_5 P, o79_8 P, o80_8 P, o81_8 P, o82_8 P, o83_8 P, o84_8 P, o85_8 P, o86_10 P, o87_10 P, o88_10 P, o89_10 P, o90_10 P, o91_10 P, o92_10 P, o93_10 P, o94_10 P, o95_12 P, o96_10 P, o97_10 P, o98_10 P, o99_11 P, o100_11 P, o101_11 P, o102_11 P, o103_11 P, o104_11 P, o105_11 P, o106_11 P, o107_11 P, o108_11 P, o109_11 P, o110_11 P, o111_12 P, o112_12 P, o113_12 P, o114_12 P, o115_12 P, o116_12 P, o117_12 P, o118_12 P, o119_12 P, o120_12 P, o121_12 P, o122_12 P, o123_13 P, o124_13 P, o125_13 P, o126_13 P, o127_13 P, o128_13 P, o129_13 P, o130_14 P, o131_14 P, o132_14 P, o133_14 P, o134_14 P, o135_14 P, o136_14 P]⟩, life0⟩
noncomputable def hp15 (P : Params) : Heap := ⟨⟨[boot_o_0 P, boot_o_1 P, o2_10 P, o3_15 P, boot_o_4 P, boot_o_5 P, boot_o_6 P, boot_o_7 P, boot_o_8 P, boot_o_9 P, boot_o_10 P, o11_0 P, o12_14 P, o13_0 P, o14_0 P, o15_2 P, o16_2 P, o17_2 P, o18_2 P, o19_2 P, o20_2 P, o21_2 P, o22_2 P, o23_2 P, o24_2 P, o25_2 P, o26_3 P, o27_3 P, o28_3 P, o29_3 P, o30_3 P, o31_3 P, o32_3 P, o33_4 P, o34_4 P, o35_4 P, o36_4 P, o37_4 P, o38_4 P, o39_4 P, o40_4 P, o41_4 P, o42_4 P, o43_4 P, o44_4 P, o45_4 P, o46_4 P, o47_4 P, o48_4 P, o49_4 P, o50_4 P, o51_4 P, o52_4 P, o53_4 P, o54_4 P, o55_4 P, o56_4 P, o57_4 P, o58_4 P, o59_4 P, o60_4 P, o61_4 P, o62_4 P, o63_4 P, o64_4 P, o65_4 P, o66_4 P, o67_4 P, o68_4 P, o69_4 P, o70_4 P, o71_4 P, o72_5 P, o73_5 P, o74_5 P, o75_5 P, o76_5 P, o77_5 P, o78_5 P, o79_8 P, o80_8 P, o81_8 P, o82_8 P, o83_8 P, o84_8 P, o85_8 P, o86_10 P, o87_10 P, o88_10 P, o89_10 P, o90_10 P, o91_10 P, o92_10 P, o93_10 P, o94_10 P, o95_12 P, o96_10 P, o97_10 P, o98_10 P, o99_11 P, o100_11 P, o101_11 P, o102_11 P, o103_11 P, o104_11 P, o105_11 P, o106_11 P, o107_11 P, o108_11 P, o109_11 P, o110_11 P, o111_12 P, o112_12 P, o113_12 P, o114_12 P, o115_12 P, o116_12 P, o117_12 P, o118_12 P, o119_12 P, o120_12 P, o121_12 P, o122_12 P, o123_13 P, o124_13 P, o125_13 P, o126_13 P, o127_13 P, o128_13 P, o129_13 P, o130_14 P, o131_14 P, o132_14 P, o133_14 P, o134_14 P, o135_14 P, o136_14 P]⟩, life0⟩
noncomputable def hp16 (P : Params) : Heap := ⟨⟨[boot_o_0 P, boot_o_1 P, o2_10 P, o3_16 P, boot_o_4 P, boot_o_5 P, boot_o_6 P, boot_o_7 P, boot_o_8 P, boot_o_9 P, boot_o_10 P, o11_0 P, o12_16 P, o13_0 P, o14_0 P, o15_2 P, o16_2 P, o17_2 P, o18_2 P, o19_2 P, o20_2 P, o21_2 P, o22_2 P, o23_2 P, o24_2 P, o25_2 P, o26_3 P, o27_3 P, o28_3 P, o29_3 P, o30_3 P, o31_3 P, o32_3 P, o33_4 P, o34_4 P, o35_4 P, o36_4 P, o37_4 P, o38_4 P, o39_4 P, o40_4 P, o41_4 P, o42_4 P, o43_4 P, o44_4 P, o45_4 P, o46_4 P, o47_4 P, o48_4 P, o49_4 P, o50_4 P, o51_4 P, o52_4 P, o53_4 P, o54_4 P, o55_4 P, o56_4 P, o57_4 P, o58_4 P, o59_4 P, o60_4 P, o61_4 P, o62_4 P, o63_4 P, o64_4 P, o65_4 P, o66_4 P, o67_4 P, o68_4 P, o69_4 P, o70_4 P, o71_4 P, o72_5 P, o73_5 P, o74_5 P, o75_5 P, o76_5 P, o77_5 P, o78_5 P, o79_8 P, o80_8 P, o81_8 P, o82_8 P, o83_8 P, o84_8 P, o85_8 P, o86_10 P, o87_10 P, o88_10 P, o89_10 P, o90_10 P, o91_10 P, o92_10 P, o93_10 P, o94_10 P, o95_12 P, o96_10 P, o97_10 P, o98_10 P, o99_11 P, o100_11 P, o101_11 P, o102_11 P, o103_11 P, o104_11 P, o105_11 P, o106_11 P, o107_11 P, o108_11 P, o109_11 P, o110_11 P, o111_12 P, o112_12 P, o113_12 P, o114_12 P, o115_12 P, o116_12 P, o117_12 P, o118_12 P, o119_12 P, o120_12 P, o121_12 P, o122_12 P, o123_13 P, o124_13 P, o125_13 P, o126_13 P, o127_13 P, o128_13 P, o129_13 P, o130_14 P, o131_14 P, o132_14 P, o133_14 P, o134_14 P, o135_14 P, o136_14 P, o137_16 P, o138_16 P, o139_16 P, o140_16 P, o141_16 P, o142_16 P, o143_16 P]⟩, life0⟩
noncomputable def hp17 (P : Params) : Heap := ⟨⟨[boot_o_0 P, boot_o_1 P, o2_10 P, o3_17 P, boot_o_4 P, boot_o_5 P, boot_o_6 P, boot_o_7 P, boot_o_8 P, boot_o_9 P, boot_o_10 P, o11_0 P, o12_17 P, o13_0 P, o14_0 P, o15_2 P, o16_2 P, o17_2 P, o18_2 P, o19_2 P, o20_2 P, o21_2 P, o22_2 P, o23_2 P, o24_2 P, o25_2 P, o26_3 P, o27_3 P, o28_3 P, o29_3 P, o30_3 P, o31_3 P, o32_3 P, o33_4 P, o34_4 P, o35_4 P, o36_4 P, o37_4 P, o38_4 P, o39_4 P, o40_4 P, o41_4 P, o42_4 P, o43_4 P, o44_4 P, o45_4 P, o46_4 P, o47_4 P, o48_4 P, o49_4 P, o50_4 P, o51_4 P, o52_4 P, o53_4 P, o54_4 P, o55_4 P, o56_4 P, o57_4 P, o58_4 P, o59_4 P, o60_4 P, o61_4 P, o62_4 P, o63_4 P, o64_4 P, o65_4 P, o66_4 P, o67_4 P, o68_4 P, o69_4 P, o70_4 P, o71_4 P, o72_5 P, o73_5 P, o74_5 P, o75_5 P, o76_5 P, o77_5 P, o78_5 P, o79_8 P, o80_8 P, o81_8 P, o82_8 P, o83_8 P, o84_8 P, o85_8 P, o86_10 P, o87_10 P, o88_10 P, o89_10 P, o90_10 P, o91_10 P, o92_10 P, o93_10 P, o94_10 P, o95_12 P, o96_10 P, o97_10 P, o98_10 P, o99_11 P, o100_11 P, o101_11 P, o102_11 P, o103_11 P, o104_11 P, o105_11 P, o106_11 P, o107_11 P, o108_11 P, o109_11 P, o110_11 P, o111_12 P, o112_12 P, o113_12 P, o114_12 P, o115_12 P, o116_12 P, o117_12 P, o118_12 P, o119_12 P, o120_12 P, o121_12 P, o122_12 P, o123_13 P, o124_13 P, o125_13 P, o126_13 P, o127_13 P, o128_13 P, o129_13 P, o130_14 P, o131_14 P, o132_14 P, o133_14 P, o134_14 P, o135_14 P, o136_14 P, o137_16 P, o138_16 P, o139_16 P, o140_16 P, o141_16 P, o142_16 P, o143_16 P, o144_17 P, o145_17 P, o146_17 P, o147_17 P, o148_17 P, o149_17 P, o150_17 P]⟩, life0⟩
noncomputable def hp18 (P : Params) : Heap := ⟨⟨[boot_o_0 P, boot_o_1 P, o2_10 P, o3_18 P, boot_o_4 P, boot_o_5 P, boot_o_6 P, boot_o_7 P, boot_o_8 P, boot_o_9 P, boot_o_10 P, o11_0 P, o12_18 P, o13_0 P, o14_0 P, o15_2 P, o16_2 P, o17_2 P, o18_2 P, o19_2 P, o20_2 P, o21_2 P, o22_2 P, o23_2 P, o24_2 P, o25_2 P, o26_3 P, o27_3 P, o28_3 P, o29_3 P, o30_3 P, o31_3 P, o32_3 P, o33_4 P, o34_4 P, o35_4 P, o36_4 P, o37_4 P, o38_4 P, o39_4 P, o40_4 P, o41_4 P, o42_4 P, o43_4 P, o44_4 P, o45_4 P, o46_4 P, o47_4 P, o48_4 P, o49_4 P, o50_4 P, o51_4 P, o52_4 P, o53_4 P, o54_4 P, o55_4 P, o56_4 P, o57_4 P, o58_4 P, o59_4 P, o60_4 P, o61_4 P, o62_4 P, o63_4 P, o64_4 P, o65_4 P, o66_4 P, o67_4 P, o68_4 P, o69_4 P, o70_4 P, o71_4 P, o72_5 P, o73_5 P, o74_5 P, o75_5 P, o76_5 P, o77_5 P, o78_5 P, o79_8 P, o80_8 P, o81_8 P, o82_8 P, o83_8 P, o84_8 P, o85_8 P, o86_10 P, o87_10 P, o88_10 P, o89_10 P, o90_10 P, o91_10 P, o92_10 P, o93_10 P, o94_10 P, o95_12 P, o96_10 P, o97_10 P, o98_10 P, o99_11 P, o100_11 P, o101_11 P, o102_11 P, o103_11 P, o104_11 P, o105_11 P, o106_11 P, o107_11 P, o108_11 P, o109_11 P, o110_11 P, o111_12 P, o112_12 P, o113_12 P, o114_12 P, o115_12 P, o116_12 P, o117_12 P, o118_12 P, o119_12 P, o120_12 P, o121_12 P, o122_12 P, o123_13 P, o124_13 P, o125_13 P, o126_13 P, o127_13 P, o128_13 P, o129_13 P, o130_14 P, o131_14 P, o132_14 P, o133_14 P, o134_14 P, o135_14 P, o136_14 P, o137_16 P, o138_16 P, o139_16 P, o140_16 P, o141_16 P, o142_16 P, o143_16 P, o144_17 P, o145_17 P, o146_17 P, o147_17 P, o148_17 P, o149_17 P, o150_17 P, o151_18 P, o152_18 P, o153_18 P, o154_18 P, o155_18 P, o156_18 P, o157_18 P]⟩, life0⟩
noncomputable def hp19 (P : Params) : Heap := ⟨⟨[boot_o_0 P, boot_o_1 P, o2_10 P, o3_19 P, boot_o_4 P, boot_o_5 P, boot_o_6 P, boot_o_7 P, boot_o_8 P, boot_o_9 P, boot_o_10 P, o11_0 P, o12_19 P, o13_0 P, o14_0 P, o15_2 P, o16_2 P, o17_2 P, o18_2 P, o19_2 P, o20_2 P, o21_2 P, o22_2 P, o23_2 P, o24_2 P, o25_2 P, o26_3 P, o27_3 P, o28_3 P, o29_3 P, o30_3 P, o31_3 P, o32_3 P, o33_4 P, o34_4 P, o35_4 P, o36_4 P, o37_4 P, o38_4 P, o39_4 P, o40_4 P, o41_4 P, o42_4 P, o43_4 P, o44_4 P, o45_4 P, o46_4 P, o47_4 P, o48_4 P, o49_4 P, o50_4 P, o51_4 P, o52_4 P, o53_4 P, o54_4 P, o55_4 P, o56_4 P, o57_4 P, o58_4 P, o59_4 P, o60_4 P, o61_4 P, o62_4 P, o63_4 P, o64_4 P, o65_4 P, o66_4 P, o67_4 P, o68_4 P, o69_4 P, o70_4 P, o71_4 P, o72_5 P, o73_5 P, o74_5 P, o75_5 P, o76_5 P, o77_5 P, o78_5 P, o79_8 P, o80_8 P, o81_8 P, o82_8 P, o83_8 P, o84_8 P, o85_8 P, o86_10 P, o87_10 P, o88_10 P, o89_10 P, o90_10 P, o91_10 P, o92_10 P, o93_10 P, o94_10 P, o95_12 P, o96_10 P, o97_10 P, o98_10 P, o99_11 P, o100_11 P, o101_11 P, o102_11 P, o103_11 P, o104_11 P, o105_11 P, o106_11 P, o107_11 P, o108_11 P, o109_11 P, o110_11 P, o111_12 P, o112_12 P, o113_12 P, o114_12 P, o115_12 P, o116_12 P, o117_12 P, o118_12 P, o119_12 P, o120_12 P, o121_12 P, o122_12 P, o123_13 P, o124_13 P, o125_13 P, o126_13 P, o127_13 P, o128_13 P, o129_13 P, o130_14 P, o131_14 P, o132_14 P, o133_14 P, o134_14 P, o135_14 P, o136_14 P, o137_16 P, o138_16 P, o139_16 P, o140_16 P, o141_16 P, o142_16 P, o143_16 P, o144_17 P, o145_17 P, o146_17 P, o147_17 P, o148_17 P, o149_17 P, o150_17 P, o151_18 P, o152_18 P, o153_18 P, o154_18 P, o155_18 P, o156_18 P, o157_18 P, o158_19 P, o159_19 P, o160_19 P, o161_19 P, o162_19 P, o163_19 P, o164_19 P]⟩, life0⟩
noncomputable def hp20 (P : Params) : Heap := ⟨⟨[boot_o_0 P, boot_o_1 P, o2_10 P, o3_20 P, boot_o_4 P, boot_o_5 P, boot_o_6 P, boot_o_7 P, boot_o_8 P, boot_o_9 P, boot_o_10 P, o11_0 P, o12_20 P, o13_0 P, o14_0 P, o15_2 P, o16_2 P, o17_2 P, o18_2 P, o19_2 P, o20_2 P, o21_2 P, o22_2 P, o23_2 P, o24_2 P, o25_2 P, o26_3 P, o27_3 P, o28_3 P, o29_3 P, o30_3 P, o31_3 P, o32_3 P, o33_4 P, o34_4 P, o35_4 P, o36_4 P, o37_4 P, o38_4 P, o39_4 P, o40_4 P, o41_4 P, o42_4 P, o43_4 P, o44_4 P, o45_4 P, o46_4 P, o47_4 P, o48_4 P, o49_4 P, o50_4 P, o51_4 P, o52_4 P, o53_4 P, o54_4 P, o55_4 P, o56_4 P, o57_4 P, o58_4 P, o59_4 P, o60_4 P, o61_4 P, o62_4 P, o63_4 P, o64_4 P, o65_4 P, o66_4 P, o67_4 P, o68_4 P, o69_4 P, o70_4 P, o71_4 P, o72_5 P, o73_5 P, o74_5 P, o75_5 P, o76_5 P, o77_5 P, o78_5 P, o79_8 P, o80_8 P, o81_8 P, o82_8 P, o83_8 P, o84_8 P, o85_8 P, o86_10 P, o87_10 P, o88_10 P, o89_10 P, o90_10 P, o91_10 P, o92_10 P, o93_10 P, o94_10 P, o95_12 P, o96_10 P, o97_10 P, o98_10 P, o99_11 P, o100_11 P, o101_11 P, o102_11 P, o103_11 P, o104_11 P, o105_11 P, o106_11 P, o107_11 P, o108_11 P, o109_11 P, o110_11 P, o111_12 P, o112_12 P, o113_12 P, o114_12 P, o115_12 P, o116_12 P, o117_12 P, o118_12 P, o119_12 P, o120_12 P, o121_12 P, o122_12 P, o123_13 P, o124_13 P, o125_13 P, o126_13 P, o127_13 P, o128_13 P, o129_13 P, o130_14 P, o131_14 P, o132_14 P, o133_14 P, o134_14 P, o135_14 P, o136_14 P, o137_16 P, o138_16 P, o139_16 P, o140_16 P, o141_16 P, o142_16 P, o143_16 P, o144_17 P, o145_17 P, o146_17 P, o147_17 P, o148_17 P, o149_17 P, o150_17 P, o151_18 P, o152_18 P, o153_18 P, o154_18 P, o155_18 P, o156_18 P, o157_18 P, o158_19 P, o159_19 P, o160_19 P, o161_19 P, o162_19 P, o163_19 P, o164_19 P, o165_20 P, o166_20 P, o167_20 P, o168_20 P, o169_20 P, o170_20 P, o171_20 P]⟩, life0⟩
noncomputable def hp21 (P : Params) : Heap := ⟨⟨[boot_o_0 P, boot_o_1 P, o2_10 P, o3_21 P, boot_o_4 P, boot_o_5 P, boot_o_6 P, boot_o_7 P, boot_o_8 P, boot_o_9 P, boot_o_10 P, o11_0 P, o12_21 P, o13_0 P, o14_0 P, o15_2 P, o16_2 P, o17_2 P, o18_2 P, o19_2 P, o20_2 P, o21_2 P, o22_2 P, o23_2 P, o24_2 P, o25_2 P, o26_3 P, o27_3 P, o28_3 P, o29_3 P, o30_3 P, o31_3 P, o32_3 P, o33_4 P, o34_4 P, o35_4 P, o36_4 P, o37_4 P, o38_4 P, o39_4 P, o40_4 P, o41_4 P, o42_4 P, o43_4 P, o44_4 P, o45_4 P, o46_4 P, o47_4 P, o48_4 P, o49_4 P, o50_4 P, o51_4 P, o52_4 P, o53_4 P, o54_4 P, o55_4 P, o56_4 P, o57_4 P, o58_4 P, o59_4 P, o60_4 P, o61_4 P, o62_4 P, o63_4 P, o64_4 P, o65_4 P, o66_4 P, o67_4 P, o68_4 P, o69_4 P, o70_4 P, o71_4 P, o72_5 P, o73_5 P, o74_5 P, o75_5 P, o76_5 P, o77_5 P, o78_5 P, o79_8 P, o80_8 P, o81_8 P, o82_8 P, o83_8 P, o84_8 P, o85_8 P, o86_10 P, o87_10 P, o88_10 P, o89_10 P, o90_10 P, o91_10 P, o92_10 P, o93_10 P, o94_10 P, o95_12 P, o96_10 P, o97_10 P, o98_10 P, o99_11 P, o100_11 P, o101_11 P, o102_11 P, o103_11 P, o104_11 P, o105_11 P, o106_11 P, o107_11 P, o108_11 P, o109_11 P, o110_11 P, o111_12 P, o112_12 P, o113_12 P, o114_12 P, o115_12 P, o116_12 P, o117_12 P, o118_12 P, o119_12 P, o120_12 P, o121_12 P, o122_12 P, o123_13 P, o124_13 P, o125_13 P, o126_13 P, o127_13 P, o128_13 P, o129_13 P, o130_14 P, o131_14 P, o132_14 P, o133_14 P, o134_14 P, o135_14 P, o136_14 P, o137_16 P, o138_16 P, o139_16 P, o140_16 P, o141_16 P, o142_16 P, o143_16 P, o144_17 P, o145_17 P, o146_17 P, o147_17 P, o148_17 P, o149_17 P, o150_17 P, o151_18 P, o152_18 P, o153_18 P, o154_18 P, o155_18 P, o156_18 P, o157_18 P, o158_19 P, o159_19 P, o160_19 P, o161_19 P, o162_19 P, o163_19 P, o164_19 P, o165_20 P, o166_20 P, o167_20 P, o168_20 P, o169_20 P, o170_20 P, o171_20 P, o172_21 P, o173_21 P, o174_21 P, o175_21 P, o176_21 P, o177_21 P, o178_21 P]⟩, life0⟩
noncomputable def hp22 (P : Params) : Heap := ⟨⟨[boot_o_0 P, boot_o_1 P, o2_10 P, o3_22 P, boot_o_4 P, boot_o_5 P, boot_o_6 P, boot_o_7 P, boot_o_8 P, boot_o_9 P, boot_o_10 P, o11_0 P, o12_21 P, o13_0 P, o14_0 P, o15_2 P, o16_2 P, o17_2 P, o18_2 P, o19_2 P, o20_2 P, o21_2 P, o22_2 P, o23_2 P, o24_2 P, o25_2 P, o26_3 P, o27_3 P, o28_3 P, o29_3 P, o30_3 P, o31_3 P, o32_3 P, o33_4 P, o34_4 P, o35_4 P, o36_4 P, o37_4 P, o38_4 P, o39_4 P, o40_4 P, o41_4 P, o42_4 P, o43_4 P, o44_4 P, o45_4 P, o46_4 P, o47_4 P, o48_4 P, o49_4 P, o50_4 P, o51_4 P, o52_4 P, o53_4 P, o54_4 P, o55_4 P, o56_4 P, o57_4 P, o58_4 P, o59_4 P, o60_4 P, o61_4 P, o62_4 P, o63_4 P, o64_4 P, o65_4 P, o66_4 P, o67_4 P, o68_4 P, o69_4 P, o70_4 P, o71_4 P, o72_5 P, o73_5 P, o74_5 P, o75_5 P, o76_5 P, o77_5 P, o78_5 P, o79_8 P, o80_8 P, o81_8 P, o82_8 P, o83_8 P, o84_8 P, o85_8 P, o86_10 P, o87_10 P, o88_10 P, o89_10 P, o90_10 P, o91_10 P, o92_10 P, o93_10 P, o94_10 P, o95_12 P, o96_10 P, o97_10 P, o98_10 P, o99_11 P, o100_11 P, o101_11 P, o102_11 P, o103_11 P, o104_11 P, o105_11 P, o106_11 P, o107_11 P, o108_11 P, o109_11 P, o110_11 P, o111_12 P, o112_12 P, o113_12 P, o114_12 P, o115_12 P, o116_12 P, o117_12 P, o118_12 P, o119_12 P, o120_12 P, o121_12 P, o122_12 P, o123_13 P, o124_13 P, o125_13 P, o126_13 P, o127_13 P, o128_13 P, o129_13 P, o130_14 P, o131_14 P, o132_14 P, o133_14 P, o134_14 P, o135_14 P, o136_14 P, o137_16 P, o138_16 P, o139_16 P, o140_16 P, o141_16 P, o142_16 P, o143_16 P, o144_17 P, o145_17 P, o146_17 P, o147_17 P, o148_17 P, o149_17 P, o150_17 P, o151_18 P, o152_18 P, o153_18 P, o154_18 P, o155_18 P, o156_18 P, o157_18 P, o158_19 P, o159_19 P, o160_19 P, o161_19 P, o162_19 P, o163_19 P, o164_19 P, o165_20 P, o166_20 P, o167_20 P, o168_20 P, o169_20 P, o170_20 P, o171_20 P, o172_21 P, o173_21 P, o174_21 P, o175_21 P, o176_21 P, o177_21 P, o178_21 P]⟩, life0⟩
noncomputable def hp23 (P : Params) : Heap := ⟨⟨[boot_o_0 P, boot_o_1 P, o2_10 P, o3_23 P, boot_o_4 P, boot_o_5 P, boot_o_6 P, boot_o_7 P, boot_o_8 P, boot_o_9 P, boot_o_10 P, o11_0 P, o12_23 P, o13_0 P, o14_0 P, o15_2 P, o16_2 P, o17_2 P, o18_2 P, o19_2 P, o20_2 P, o21_2 P, o22_2 P, o23_2 P, o24_2 P, o25_2 P, o26_3 P, o27_3 P, o28_3 P, o29_3 P, o30_3 P, o31_3 P, o32_3 P, o33_4 P, o34_4 P, o35_4 P, o36_4 P, o37_4 P, o38_4 P, o39_4 P, o40_4 P, o41_4 P, o42_4 P, o43_4 P, o44_4 P, o45_4 P, o46_4 P, o47_4 P, o48_4 P, o49_4 P, o50_4 P, o51_4 P, o52_4 P, o53_4 P, o54_4 P, o55_4 P, o56_4 P, o57_4 P, o58_4 P, o59_4 P, o60_4 P, o61_4 P, o62_4 P, o63_4 P, o64_4 P, o65_4 P, o66_4 P, o67_4 P, o68_4 P, o69_4 P, o70_4 P, o71_4 P, o72_5 P, o73_5 P, o74_5 P, o75_5 P, o76_5 P, o77_5 P, o78_5 P, o79_8 P, o80_8 P, o81_8 P, o82_8 P, o83_8 P, o84_8 P, o85_8 P, o86_10 P, o87_10 P, o88_10 P, o89_10 P, o90_10 P, o91_10 P, o92_10 P, o93_10 P, o94_10 P, o95_12 P, o96_10 P, o97_10 P, o98_10 P, o99_11 P, o100_11 P, o101_11 P, o102_11 P, o103_11 P, o104_11 P, o105_11 P, o106_11 P, o107_11 P, o108_11 P, o109_11 P, o110_11 P, o111_12 P, o112_12 P, o113_12 P, o114_12 P, o115_12 P, o116_12 P, o117_12 P, o118_12 P, o119_12 P, o120_12 P, o121_12 P, o122_12 P, o123_13 P, o124_13 P, o125_13 P, o126_13 P, o127_13 P, o128_13 P, o129_13 P, o130_14 P, o131_14 P, o132_14 P, o133_14 P, o134_14 P, o135_14 P, o136_14 P, o137_16 P, o138_16 P, o139_16 P, o140_16 P, o141_16 P, o142_16 P, o143_16 P, o144_17 P, o145_17 P, o146_17 P, o147_17 P, o148_17 P, o149_17 P, o150_17 P, o151_18 P, o152_18 P, o153_18 P, o154_18 P, o155_18 P, o156_18 P, o157_18 P, o158_19 P, o159_19 P, o160_19 P, o161_19 P, o162_19 P, o163_19 P, o164_19 P, o165_20 P, o166_20 P, o167_20 P, o168_20 P, o169_20 P, o170_20 P, o171_20 P, o172_21 P, o173_21 P, o174_21 P, o175_21 P, o176_21 P, o177_21 P, o178_21 P, o179_23 P, o180_23 P, o181_23 P, o182_23 P, o183_23 P, o184_23 P, o185_23 P]⟩, life0⟩
noncomputable def hp24 (P : Params) : Heap := ⟨⟨[boot_o_0 P, boot_o_1 P, o2_10 P, o3_24 P, boot_o_4 P, boot_o_5 P, boot_o_6 P, boot_o_7 P, boot_o_8 P, boot_o_9 P, boot_o_10 P, o11_0 P, o12_24 P, o13_0 P, o14_0 P, o15_2 P, o16_2 P, o17_2 P, o18_2 P, o19_2 P, o20_2 P, o21_2 P, o22_2 P, o23_2 P, o24_2 P, o25_2 P, o26_3 P, o27_3 P, o28_3 P, o29_3 P, o30_3 P, o31_3 P, o32_3 P, o33_4 P, o34_4 P, o35_4 P, o36_4 P, o37_4 P, o38_4 P, o39_4 P, o40_4 P, o41_4 P, o42_4 P, o43_4 P, o44_4 P, o45_4 P, o46_4 P, o47_4 P, o48_4 P, o49_4 P, o50_4 P, o51_4 P, o52_4 P, o53_4 P, o54_4 P, o55_4 P, o56_4 P, o57_4 P, o58_4 P, o59_4 P, o60_4 P, o61_4 P, o62_4 P, o63_4 P, o64_4 P, o65_4 P, o66_4 P, o67_4 P, o68_4 P, o69_4 P, o70_4 P, o71_4 P, o72_5 P, o73_5 P, o74_5 P, o75_5 P, o76_5 P, o77_5 P, o78_5 P, o79_8 P, o80_8 P, o81_8 P, o82_8 P, o83_8 P, o84_8 P, o85_8 P, o86_10 P, o87_10 P, o88_10 P, o89_10 P, o90_10 P, o91_10 P, o92_10 P, o93_10 P, o94_10 P, o95_12 P, o96_10 P, o97_10 P, o98_10 P, o99_11 P, o100_11 P, o101_11 P, o102_11 P, o103_11 P, o104_11 P, o105_11 P, o106_11 P, o107_11 P, o108_11 P, o109_11 P, o110_11 P, o111_12 P, o112_12 P, o113_12 P, o114_12 P, o115_12 P, o116_12 P, o117_12 P, o118_12 P, o119_12 P, o120_12 P, o121_12 P, o122_12 P, o123_13 P, o124_13 P, o125_13 P, o126_13 P, o127_13 P, o128_13 P, o129_13 P, o130_14 P, o131_14 P, o132_14 P, o133_14 P, o134_14 P, o135_14 P, o136_14 P, o137_16 P, o138_16 P, o139_16 P, o140_16 P, o141_16 P, o142_16 P, o143_16 P, o144_17 P, o145_17 P, o146_17 P, o147_17 P, o148_17 P, o149_17 P, o150_17 P, o151_18 P, o152_18 P, o153_18 P, o154_18 P, o155_18 P, o156_18 P, o157_18 P, o158_19 P, o159_19 P, o160_19 P, o161_19 P, o162_19 P, o163_19 P, o164_19 P, o165_20 P, o166_20 P, o167_20 P, o168_20 P, o169_20 P, o170_20 P, o171_20 P, o172_21 P, o173_21 P, o174_21 P, o175_21 P, o176_21 P, o177_21 P, o178_21 P, o179_23 P, o180_23 P, o181_23 P, o182_23 P, o183_23 P, o184_23 P, o185_23 P, o186_24 P, o187_24 P, o188_24 P, o189_24 P, o190_24 P, o191_24 P, o192_24 P]⟩, life0⟩
noncomputable def hp25 (P : Params) : Heap := ⟨⟨[boot_o_0 P, boot_o_1 P, o2_10 P, o3_25 P, boot_o_4 P, boot_o_5 P, boot_o_6 P, boot_o_7 P, boot_o_8 P, boot_o_9 P, boot_o_10 P, o11_0 P, o12_25 P, o13_0 P, o14_0 P, o15_2 P, o16_2 P, o17_2 P, o18_2 P, o19_2 P, o20_2 P, o21_2 P, o22_2 P, o23_2 P, o24_2 P, o25_2 P, o26_3 P, o27_3 P, o28_3 P, o29_3 P, o30_3 P, o31_3 P, o32_3 P, o33_4 P, o34_4 P, o35_4 P, o36_4 P, o37_4 P, o38_4 P, o39_4 P, o40_4 P, o41_4 P, o42_4 P, o43_4 P, o44_4 P, o45_4 P, o46_4 P, o47_4 P, o48_4 P, o49_4 P, o50_4 P, o51_4 P, o52_4 P, o53_4 P, o54_4 P, o55_4 P, o56_4 P, o57_4 P, o58_4 P, o59_4 P, o60_4 P, o61_4 P, o62_4 P, o63_4 P, o64_4 P, o65_4 P, o66_4 P, o67_4 P, o68_4 P, o69_4 P, o70_4 P, o71_4 P, o72_5 P, o73_5 P, o74_5 P, o75_5 P, o76_5 P, o77_5 P, o78_5 P, o79_8 P, o80_8 P, o81_8 P, o82_8 P, o83_8 P, o84_8 P, o85_8 P, o86_10 P, o87_10 P, o88_10 P, o89_10 P, o90_10 P, o91_10 P, o92_10 P, o93_10 P, o94_10 P, o95_12 P, o96_10 P, o97_10 P, o98_10 P, o99_11 P, o100_11 P, o101_11 P, o102_11 P, o103_11 P, o104_11 P, o105_11 P, o106_11 P, o107_11 P, o108_11 P, o109_11 P, o110_11 P, o111_12 P, o112_12 P, o113_12 P, o114_12 P, o115_12 P, o116_12 P, o117_12 P, o118_12 P, o119_12 P, o120_12 P, o121_12 P, o122_12 P, o123_13 P, o124_13 P, o125_13 P, o126_13 P, o127_13 P, o128_13 P, o129_13 P, o130_14 P, o131_14 P, o132_14 P, o133_14 P, o134_14 P, o135_14 P, o136_14 P, o137_16 P, o138_16 P, o139_16 P, o140_16 P, o141_16 P, o142_16 P, o143_16 P, o144_17 P, o145_17 P, o146_17 P, o147_17 P, o148_17 P, o149_17 P, o150_17 P, o151_18 P, o152_18 P, o153_18 P, o154_18 P, o155_18 P, o156_18 P, o157_18 P, o158_19 P, o159_19 P, o160_19 P, o161_19 P, o162_19 P, o163_19 P, o164_19 P, o165_20 P, o166_20 P, o167_20 P, o168_20 P, o169_20 P, o170_20 P, o171_20 P, o172_21 P, o173_21 P, o174_21 P, o175_21 P, o176_21 P, o177_21 P, o178_21 P, o179_23 P, o180_23 P, o181_23 P, o182_23 P, o183_23 P, o184_23 P, o185_23 P, o186_24 P, o187_24 P, o188_24 P, o189_24 P, o190_24 P, o191_24 P, o192_24 P, o193_25 P, o194_25 P, o195_25 P, o196_25 P, o197_25 P, o198_25 P, o199_25 P]⟩, life0⟩
noncomputable def hp26 (P : Params) : Heap := ⟨⟨[boot_o_0 P, boot_o_1 P, o2_10 P, o3_26 P, boot_o_4 P, boot_o_5 P, boot_o_6 P, boot_o_7 P, boot_o_8 P, boot_o_9 P, boot_o_10 P, o11_0 P, o12_26 P, o13_0 P, o14_0 P, o15_2 P, o16_2 P, o17_2 P, o18_2 P, o19_2 P, o20_2 P, o21_2 P, o22_2 P, o23_2 P, o24_2 P, o25_2 P, o26_3 P, o27_3 P, o28_3 P, o29_3 P, o30_3 P, o31_3 P, o32_3 P, o33_4 P, o34_4 P, o35_4 P, o36_4 P, o37_4 P, o38_4 P, o39_4 P, o40_4 P, o41_4 P, o42_4 P, o43_4 P, o44_4 P, o45_4 P, o46_4 P, o47_4 P, o48_4 P, o49_4 P, o50_4 P, o51_4 P, o52_4 P, o53_4 P, o54_4 P, o55_4 P, o56_4 P, o57_4 P, o58_4 P, o59_4 P, o60_4 P, o61_4 P, o62_4 P, o63_4 P, o64_4 P, o65_4 P, o66_4 P, o67_4 P, o68_4 P, o69_4 P, o70_4 P, o71_4 P, o72_5 P, o73_5 P, o74_5 P, o75_5 P, o76_5 P, o77_5 P, o78_5 P, o79_8 P, o80_8 P, o81_8 P, o82_8 P, o83_8 P, o84_8 P, o85_8 P, o86_10 P, o87_10 P, o88_10 P, o89_10 P, o90_10 P, o91_10 P, o92_10 P, o93_10 P, o94_10 P, o95_12 P, o96_10 P, o97_10 P, o98_10 P, o99_11 P, o100_11 P, o101_11 P, o102_11 P, o103_11 P, o104_11 P, o105_11 P, o106_11 P, o107_11 P, o108_11 P, o109_11 P, o110_11 P, o111_12 P, o112_12 P, o113_12 P, o114_12 P, o115_12 P, o116_12 P, o117_12 P, o118_12 P, o119_12 P, o120_12 P, o121_12 P, o122_12 P, o123_13 P, o124_13 P, o125_13 P, o126_13 P, o127_13 P, o128_13 P, o129_13 P, o130_14 P, o131_14 P, o132_14 P, o133_14 P, o134_14 P, o135_14 P, o136_14 P, o137_16 P, o138_16 P, o139_16 P, o140_16 P, o141_16 P, o142_16 P, o143_16 P, o144_17 P, o145_17 P, o146_17 P, o147_17 P, o148_17 P, o149_17 P, o150_17 P, o151_18 P, o152_18 P, o153_18 P, o154_18 P, o155_18 P, o156_18 P, o157_18 P, o158_19 P, o159_19 P, o160_19 P, o161_19 P, o162_19 P, o163_19 P, o164_19 P, o165_20 P, o166_20 P, o167_20 P, o168_20 P, o169_20 P, o170_20 P, o171_20 P, o172_21 P, o173_21 P, o174_21 P, o175_21 P, o176_21 P, o177_21 P, o178_21 P, o179_23 P, o180_23 P, o181_23 P, o182_23 P, o183_23 P, o184_23 P, o185_23 P, o186_24 P, o187_24 P, o188_24 P, o189_24 P, o190_24 P, o191_24 P, o192_24 P, o193_25 P, o194_25 P, o195_25 P, o196_25 P, o197_25 P, o198_25 P, o199_25 P, o200_26 P, o201_26 P, o202_26 P, o203_26 P, o204_26 P]⟩, life0⟩
noncomputable def hp27 (P : Params) : Heap := ⟨⟨[boot_o_0 P, boot_o_1 P, o2_10 P, o3_27 P, boot_o_4 P, boot_o_5 P, boot_o_6 P, boot_o_7 P, boot_o_8 P, boot_o_9 P, boot_o_10 P, o11_0 P, o12_27 P, o13_0 P, o14_0 P, o15_2 P, o16_2 P, o17_2 P, o18_2 P, o19_2 P, o20_2 P, o21_2 P, o22_2 P, o23_2 P, o24_2 P, o25_2 P, o26_3 P, o27_3 P, o28_3 P, o29_3 P, o30_3 P, o31_3 P, o32_3 P, o33_4 P, o34_4 P, o35_4 P, o36_4 P, o37_4 P, o38_4 P, o39_4 P, o40_4 P, o41_4 P, o42_4 P, o43_4 P, o44_4 P, o45_4 P, o46_4 P, o47_4 P, o48_4 P, o49_4 P, o50_4 P, o51_4 P, o52_4 P, o53_4 P, o54_4 P, o55_4 P, o56_4 P, o57_4 P, o58_4 P, o59_4 P, o60_4 P, o61_4 P, o62_4 P, o63_4 P, o64_4 P, o65_4 P, o66_4 P, o67_4 P, o68_4 P, o69_4 P, o70_4 P, o71_4 P, o72_5 P, o73_5 P, o74_5 P, o75_5 P, o76_5 P, o77_5 P, o78_5 P, o79_8 P, o80_8 P, o81_8 P, o82_8 P, o83_8 P, o84_8 P, o85_8 P, o86_10 P, o87_10 P, o88_10 P, o89_10 P, o90_10 P, o91_10 P, o92_10 P, o93_10 P, o94_10 P, o95_12 P, o96_10 P, o97_10 P, o98_10 P, o99_11 P, o100_11 P, o101_11 P, o102_11 P, o103_11 P, o104_11 P, o105_11 P, o106_11 P, o107_11 P, o108_11 P, o109_11 P, o110_11 P, o111_12 P, o112_12 P, o113_12 P, o114_12 P, o115_12 P, o116_12 P, o117_12 P, o118_12 P, o119_12 P, o120_12 P, o121_12 P, o122_12 P, o123_13 P, o124_13 P, o125_13 P, o126_13 P, o127_13 P, o128_13 P, o129_13 P, o130_14 P, o131_14 P, o132_14 P, o133_14 P, o134_14 P, o135_14 P, o136_14 P, o137_16 P, o138_16 P, o139_16 P, o140_16 P, o141_16 P, o142_16 P, o143_16 P, o144_17 P, o145_17 P, o146_17 P, o147_17 P, o148_17 P, o149_17 P, o150_17 P, o151_18 P, o152_18 P, o153_18 P, o154_18 P, o155_18 P, o156_18 P, o157_18 P, o158_19 P, o159_19 P, o160_19 P, o161_19 P, o162_19 P, o163_19 P, o164_19 P, o165_20 P, o166_20 P, o167_20 P, o168_20 P, o169_20 P, o170_20 P, o171_20 P, o172_21 P, o173_21 P, o174_21 P, o175_21 P, o176_21 P, o177_21 P, o178_21 P, o179_23 P, o180_23 P, o181_23 P, o182_23 P, o183_23 P, o184_23 P, o185_23 P, o186_24 P, o187_24 P, o188_24 P, o189_24 P, o190_24 P, o191_24 P, o192_24 P, o193_25 P, o194_25 P, o195_25 P, o196_25 P, o197_25 P, o198_25 P, o199_25 P, o200_26 P, o201_26 P, o202_26 P, o203_26 P, o204_26 P, o205_27 P, o206_27 P, o207_27 P, o208_27 P, o209_27 P]⟩, life0⟩
noncomputable def sh0 (w : World) (os : OsState) : Shared := ⟨hp0 w.params, #[], drawn0, 187, os⟩
noncomputable def sh1 (w : World) (os : OsState) : Shared := ⟨hp1 w.params, #[], drawn0, 189, os⟩
noncomputable def sh2 (w : World) (os : OsState) : Shared := ⟨hp2 w.params, #[], drawn0, 249, os⟩
noncomputable def sh3 (w : World) (os : OsState) : Shared := ⟨hp3 w.params, #[], drawn0, 256, os⟩
noncomputable def sh4 (w : World) (os : OsState) : Shared := ⟨hp4 w.params, #[], drawn0, 2207, os⟩
noncomputable def sh5 (w : World) (os : OsState) : Shared := ⟨hp5 w.params, #[], drawn0, 2215, os⟩
noncomputable def sh6 (w : World) (os : OsState) : Shared := ⟨hp6 w.params, #[], drawn0, 2217, os⟩
noncomputable def sh7 (w : World) (os : OsState) : Shared := ⟨hp7 w.params, #[], drawn0, 2219, os⟩
noncomputable def sh8 (w : World) (os : OsState) : Shared := ⟨hp8 w.params, #[], drawn0, 2231, os⟩
noncomputable def sh9 (w : World) (os : OsState) : Shared := ⟨hp9 w.params, #[], drawn0, 2233, os⟩
noncomputable def sh10 (w : World) (os : OsState) : Shared := ⟨hp10 w.params, #[], drawn0, 2253, os⟩
noncomputable def sh11 (w : World) (os : OsState) : Shared := ⟨hp11 w.params, #[], drawn0, 2269, os⟩
noncomputable def sh12 (w : World) (os : OsState) : Shared := ⟨hp12 w.params, #[], drawn0, 2285, os⟩
noncomputable def sh13 (w : World) (os : OsState) : Shared := ⟨hp13 w.params, #[], drawn0, 2298, os⟩
noncomputable def sh14 (w : World) (os : OsState) : Shared := ⟨hp14 w.params, #[], drawn0, 2309, os⟩
noncomputable def sh15 (w : World) (os : OsState) : Shared := ⟨hp15 w.params, #[], drawn0, 2311, os⟩
noncomputable def sh16 (w : World) (os : OsState) : Shared := ⟨hp16 w.params, #[], drawn0, 2319, os⟩
noncomputable def sh17 (w : World) (os : OsState) : Shared := ⟨hp17 w.params, #[], drawn0, 2327, os⟩
noncomputable def sh18 (w : World) (os : OsState) : Shared := ⟨hp18 w.params, #[], drawn0, 2335, os⟩
noncomputable def sh19 (w : World) (os : OsState) : Shared := ⟨hp19 w.params, #[], drawn0, 2343, os⟩
noncomputable def sh20 (w : World) (os : OsState) : Shared := ⟨hp20 w.params, #[], drawn0, 2353, os⟩
noncomputable def sh21 (w : World) (os : OsState) : Shared := ⟨hp21 w.params, #[], drawn0, 2362, os⟩
noncomputable def sh22 (w : World) (os : OsState) : Shared := ⟨hp22 w.params, #[], drawn0, 2364, os⟩
noncomputable def sh23 (w : World) (os : OsState) : Shared := ⟨hp23 w.params, #[], drawn0, 2374, os⟩
noncomputable def sh24 (w : World) (os : OsState) : Shared := ⟨hp24 w.params, #[], drawn0, 2387, os⟩
noncomputable def sh25 (w : World) (os : OsState) : Shared := ⟨hp25 w.params, #[], drawn0, 2402, os⟩
noncomputable def sh26 (w : World) (os : OsState) : Shared := ⟨hp26 w.params, #[], drawn0, 2408, os⟩
noncomputable def sh27 (w : World) (os : OsState) : Shared := ⟨hp27 w.params, #[], drawn0, 2414, os⟩
end Wr50
end
section
set_option maxRecDepth 100000
set_option maxHeartbeats 4000000
namespace Wr50
open PySem PySem.W PySem.Calls PyProof.Rows
noncomputable abbrev DIt := Option (Sem Value) × Sem Value
noncomputable abbrev DSt := Option Addr × List (Sem Value × Sem Value)
noncomputable def ddfg : { fg : (DIt → DSt → Sem (ForInStep DSt)) × (DSt → Sem Value) // ∀ items, dictDisplay items = (forIn items ((none, []) : DSt) fg.1).bind fg.2 } := by
  refine ⟨(?f, ?g), fun items => ?_⟩
  rotate_left 2
  unfold dictDisplay
  dsimp only
  exact rfl
noncomputable def ddf := ddfg.1.1
noncomputable def ddg := ddfg.1.2
theorem dd_eq (items : List DIt) : dictDisplay items = (forIn items ((none, []) : DSt) ddf).bind ddg := ddfg.2 items
section
variable (st : Setting) (n₀ : Nat) (ann : Option Value)
/-- the loop of a display, run straight -/
noncomputable def lpS (f : DIt → DSt → Sem (ForInStep DSt)) : List DIt → DSt → Shared → Pos → Nat → Option (DSt × Shared × Pos × Nat)
  | [], d, s, p, n => some (d, s, p, n)
  | x :: xs, d, s, p, n => match evS st n₀ ann (f x d) s p n with
    | some (.yield d', s', p', n') => lpS f xs d' s' p' n'
    | _ => none
theorem lpS_app (f : DIt → DSt → Sem (ForInStep DSt)) (r : List DIt) : ∀ (c : List DIt) (d : DSt) (s : Shared) (p : Pos) (n : Nat), lpS st n₀ ann f (c ++ r) d s p n = (lpS st n₀ ann f c d s p n).bind fun z => lpS st n₀ ann f r z.1 z.2.1 z.2.2.1 z.2.2.2
  | [], d, s, p, n => rfl
  | x :: c, d, s, p, n => by
    rw [List.cons_append, lpS, lpS]
    cases evS st n₀ ann (f x d) s p n with
    | none => rfl
    | some z =>
      obtain ⟨y, s', p', n'⟩ := z
      cases y with
      | done d' => rfl
      | yield d' => exact lpS_app f r c d' s' p' n'
theorem lpS_for (f : DIt → DSt → Sem (ForInStep DSt)) : ∀ (c : List DIt) (d : DSt) (s : Shared) (p : Pos) (n : Nat) (z : DSt × Shared × Pos × Nat), lpS st n₀ ann f c d s p n = some z → evS st n₀ ann (forIn c d f) s p n = some z
  | [], d, s, p, n, z, h => h
  | x :: c, d, s, p, n, z, h => by
    rw [lpS] at h
    rw [List.forIn_cons, Sem.bind_eq_wrap']
    cases hx : evS st n₀ ann (f x d) s p n with
    | none => rw [hx] at h; cases h
    | some y =>
      rw [evS_wrap _ _ _ _ _ _ _ _ _ _ _ _ hx]
      rw [hx] at h
      obtain ⟨y, s', p', n'⟩ := y
      cases y with
      | done d' => cases h
      | yield d' => exact lpS_for f c d' s' p' n' z h
end
noncomputable def dKeys : List (Option Expr) := dictKeys (stAt 3)
noncomputable def dVals : List Expr := dictVals (stAt 3)
noncomputable def dPosOf : Stmt → Pos
  | .Assign _ (.Dict _ _ p) _ => p
  | _ => ⟨0, 0, 0, 0⟩
noncomputable def dPos : Pos := dPosOf (stAt 3)
noncomputable def its : List DIt := (evalEachOpt dKeys envT).zip ((evalEach dVals envT).map fun v => do let x ← v; standAt dPos; pure x)
noncomputable def ch (j : Nat) : List DIt := (its.drop (17 * j)).take 17
end Wr50
end
section
set_option maxRecDepth 100000
set_option maxHeartbeats 4000000
namespace Wr50
open PySem PySem.W PySem.Calls PyProof.Rows
noncomputable def mainD (k : Nat) : Obj := ⟨.type "dict", none, .dict (b3es.toList.take k).toArray k, #[]⟩
noncomputable def subD (j : Nat) : Obj := ⟨.type "dict", none, .dict (subE j) 17, #[]⟩
end Wr50
end
section
set_option maxRecDepth 100000
set_option maxHeartbeats 4000000
namespace Wr50
open PySem PySem.W PySem.Calls PyProof.Rows
noncomputable abbrev dObj (es : Array DictEntry) (n : Nat) : Obj := ⟨.type "dict", none, .dict es n, #[]⟩
theorem places_nil {es : Array DictEntry} {h : Int} (hno : ∀ e ∈ es.toList, e.hash ≠ h) : placesWithHash es.size (fun i => es[i]?.map (·.hash)) h = [] := by
  unfold placesWithHash
  rw [List.filter_eq_nil_iff]
  intro i _ hb
  rw [beq_iff_eq] at hb
  dsimp only at hb
  cases he : es[i]? with
  | none => rw [he] at hb; cases hb
  | some e =>
    rw [he] at hb
    simp only [Option.map_some, Option.some.injEq] at hb
    exact hno e (Array.mem_def.mp (Array.mem_of_getElem? he)) hb
section
variable {st : Setting} {n₀ : Nat} {ann : Option Value}
theorem ev_bind {α β : Type} {m : Sem α} {f : α → Sem β} {s : Shared} {p : Pos} {n : Nat} {r : α × Shared × Pos × Nat} (h : evS st n₀ ann m s p n = some r) : evS st n₀ ann (m >>= f) s p n = evS st n₀ ann (f r.1) r.2.1 r.2.2.1 r.2.2.2 := by
  rw [Sem.bind_eq_wrap']
  exact evS_wrap _ _ _ _ _ _ _ _ _ _ _ _ h
theorem ev_load {s : Shared} {p : Pos} {c : Nat} {a : Addr} {q : Option Value} {o : Obj} (hg : s.heap.get? a = some o) : evS st n₀ ann (loadPart a q) s p c = some (o, s, p, c + 1) := by
  unfold loadPart
  show (s.heap.get? a).elim none _ = _
  rw [hg]; rfl
theorem ev_update {s : Shared} {p : Pos} {c : Nat} {a : Addr} {q : Option Value} {o : Obj} {f : Obj → Obj} (hg : s.heap.get? a = some o) (hn : Nat.ble n₀ a = true) : evS st n₀ ann (updatePart a q f) s p c = some ((), { s with heap := s.heap.update a f }, p, c + 1) := by
  unfold updatePart
  have hb : ((s.heap.get? a).isSome && (Nat.ble n₀ a || a == mainNs || a == cStatics || ann == some (.ref a))) = true := by rw [hg, hn]; rfl
  show (match ((s.heap.get? a).isSome && (Nat.ble n₀ a || a == mainNs || a == cStatics || ann == some (.ref a))) with | true => evS st n₀ ann (Sem.pure ()) { s with heap := s.heap.update a f } p (c + 1) | false => none) = _
  rw [hb]; rfl
theorem ev_entries {s : Shared} {p : Pos} {c : Nat} {a : Addr} {q : Option Value} {es : Array DictEntry} {n : Nat} (hg : s.heap.get? a = some (dObj es n)) : evS st n₀ ann (dictEntries a q) s p c = some (es, s, p, c + 1) := by
  unfold dictEntries
  exact (ev_bind (ev_load hg)).trans rfl
theorem ev_epoch {s : Shared} {p : Pos} {c : Nat} {a : Addr} {q : Option Value} {es : Array DictEntry} {n : Nat} (hg : s.heap.get? a = some (dObj es n)) : evS st n₀ ann (dictEpoch a q) s p c = some (n, s, p, c + 1) := by
  unfold dictEpoch
  exact (ev_bind (ev_load hg)).trans rfl
theorem ev_find {s : Shared} {p : Pos} {c : Nat} {d : Addr} {es : Array DictEntry} {n : Nat} {h k : Int} {t : Tok} (hg : s.heap.get? d = some (dObj es n)) (hno : ∀ e ∈ es.toList, e.hash ≠ h) :
    evS st n₀ ann (dictFind d (.int k t) h) s p c = some (none, s, p, c + 1) := by
  have hp := places_nil hno
  unfold dictFind
  simp only [holding, List.filter_cons, List.filter_nil, Bool.false_eq_true, if_false]
  refine (ev_bind (ev_entries hg)).trans ?_
  dsimp only
  rw [hp]
  rfl
theorem ev_put {s : Shared} {p : Pos} {c : Nat} {d : Addr} {es : Array DictEntry} {n : Nat} {h k : Int} {t tv : Tok} {v : PySem.Str} (hg : s.heap.get? d = some (dObj es n)) (hno : ∀ e ∈ es.toList, e.hash ≠ h) (hsz : es.size < 100000) (hn : Nat.ble n₀ d = true)
    (hu : (s.heap.update d (Obj.mapDictKeys (·.push ⟨h, .int k t, .str v tv⟩))).get? d = some (dObj (es.push ⟨h, .int k t, .str v tv⟩) (n + 1))) :
    evS st n₀ ann (dictPut d h (.int k t) (.str v tv)) s p c = some ((), { s with heap := s.heap.update d (Obj.mapDictKeys (·.push ⟨h, .int k t, .str v tv⟩)) }, p, c + 4) := by
  unfold dictPut
  refine (ev_bind (ev_find hg hno)).trans ?_
  dsimp only
  unfold updateDictKeys
  refine (ev_bind (ev_load hg)).trans ?_
  dsimp only
  refine (ev_bind (ev_update hg hn)).trans ?_
  dsimp only
  unfold lookBehind
  refine (ev_bind (ev_load hu)).trans ?_
  dsimp only
  have hpast : (dObj (es.push ⟨h, .int k t, .str v tv⟩) (n + 1)).data.pastItsLine = none := by
    show (if (es.push _).size > sizeLine + 1 then some "dict:memory" else none) = none
    rw [if_neg (by simp only [Array.size_push, sizeLine_eq]; omega)]
  rw [hpast]
  rfl
end
end Wr50
end
section
set_option maxRecDepth 100000
set_option maxHeartbeats 4000000
namespace Wr50
open PySem PySem.W PySem.Calls PyProof.Rows
/-- entries laid behind a dict -/
noncomputable def put (d : Addr) : List DictEntry → Heap → Heap
  | [], H => H
  | e :: xs, H => put d xs (H.update d (Obj.mapDictKeys (·.push e)))
noncomputable def plainE (e : DictEntry) : Prop := ∃ k t v tv, e.key = .int k t ∧ e.val = .str v tv
section
variable {st : Setting} {n₀ : Nat} {ann : Option Value}
theorem get_push {H : Heap} {d : Addr} {es : Array DictEntry} {n : Nat} (e : DictEntry) (hg : H.get? d = some (dObj es n)) : (H.update d (Obj.mapDictKeys (·.push e))).get? d = some (dObj (es.push e) (n + 1)) :=
  Heap.get?_update_self _ hg rfl
theorem put_get {d : Addr} : ∀ (xs : List DictEntry) (H : Heap) (es : Array DictEntry) (n : Nat), H.get? d = some (dObj es n) → (put d xs H).get? d = some (dObj (es ++ xs.toArray) (n + xs.length))
  | [], H, es, n, h => by simpa [put] using h
  | e :: xs, H, es, n, h => by
    have := put_get xs _ _ _ (get_push e h)
    rw [put, this]
    congr 2
    · simp
    · simp; omega
theorem ev_loop {d a : Addr} (hda : d ≠ a) (subs : Array DictEntry) (m : Nat) (hn : Nat.ble n₀ d = true) (body : Nat → PUnit → Sem (ForInStep PUnit))
    (hb : ∀ (i : Nat) (e : DictEntry) (s : Shared) (p : Pos) (c : Nat) (s' : Shared) (c' : Nat), subs[i]? = some e → s.heap.get? a = some (dObj subs m) → s'.heap.get? a = some (dObj subs m) → evS st n₀ ann (dictPut d e.hash e.key e.val) s p (c + 1) = some ((), s', p, c') →
      evS st n₀ ann (body i ⟨⟩) s p c = some (.yield ⟨⟩, s', p, c' + 1)) :
    ∀ (xs : List DictEntry) (j : Nat) (s : Shared) (p : Pos) (c : Nat) (es : Array DictEntry) (n : Nat), (∀ i, xs[i]? = subs[j + i]?) → (∀ e ∈ xs, plainE e) → (xs.map (·.hash)).Nodup → (∀ e ∈ es.toList, ∀ x ∈ xs, e.hash ≠ x.hash) → es.size + xs.length < 100000 →
      s.heap.get? d = some (dObj es n) → s.heap.get? a = some (dObj subs m) →
      evS st n₀ ann (forIn (List.range' j xs.length) (⟨⟩ : PUnit) body) s p c = some (⟨⟩, { s with heap := put d xs s.heap }, p, c + 6 * xs.length)
  | [], j, s, p, c, _, _, _, _, _, _, _, _, _ => rfl
  | x :: xs, j, s, p, c, es, n, hx, hp, hnd, hno, hsz, hd, ha => by
    have hx0 := hx 0
    obtain ⟨k, t, v, tv, e1, e2⟩ := hp x (.head _)
    have hput := ev_put (st := st) (n₀ := n₀) (ann := ann) (p := p) (c := c + 1) (t := t) (tv := tv) (v := v) (k := k) (h := x.hash) hd (fun e he => hno e he x (.head _)) (by simp at hsz; omega) hn (get_push _ hd)
    have ex : (⟨x.hash, .int k t, .str v tv⟩ : DictEntry) = x := by rw [← e1, ← e2]
    rw [ex, ← e1, ← e2] at hput
    have ha2 : (s.heap.update d (Obj.mapDictKeys (·.push x))).get? a = some (dObj subs m) := Heap.get?_update_of_ne _ hda ha
    have hbody := hb j x s p c _ _ (by simpa using hx0.symm) ha ha2 hput
    rw [List.length_cons, List.range'_succ, List.forIn_cons]
    refine (ev_bind hbody).trans ?_
    dsimp only
    have ih := ev_loop hda subs m hn body hb xs (j + 1) { s with heap := s.heap.update d (Obj.mapDictKeys (·.push x)) } p (c + 1 + 4 + 1) (es := es.push x) (n := n + 1)
      (fun i => by have := hx (i + 1); simp at this; rw [this]; congr 1; omega) (fun e he => hp e (.tail _ he)) (by simp at hnd; exact hnd.2)
      (fun e he y hy => by
        simp at he
        rcases he with he | he
        · exact hno e (by simpa using he) y (.tail _ hy)
        · subst he
          simp at hnd
          exact fun h => hnd.1 y hy h.symm)
      (by simp at hsz ⊢; omega) (get_push x hd) ha2
    rw [ih, put]
    congr 4
    omega
theorem ev_merge {d a : Addr} (hda : d ≠ a) (hsm : (a == sysModules) = false) {subs es : Array DictEntry} {m n : Nat} (hn : Nat.ble n₀ d = true) {s : Shared} {p : Pos} {c c1 c2 : Nat}
    (hI : evS st n₀ ann (isInstance (.ref a) (.type "dict")) s p c = some (true, s, p, c1)) (hS : evS st n₀ ann (specialOf (.ref a) "__iter__") s p c1 = some (some (.builtin "dict.__iter__"), s, p, c2))
    (hp : ∀ e ∈ subs.toList, plainE e) (hnd : (subs.toList.map (·.hash)).Nodup) (hno : ∀ e ∈ es.toList, ∀ x ∈ subs.toList, e.hash ≠ x.hash) (hsz : es.size + subs.size < 100000) (hes : es.isEmpty = false)
    (hd : s.heap.get? d = some (dObj es n)) (ha : s.heap.get? a = some (dObj subs m)) :
    evS st n₀ ann (mergeMapping d (.ref a) false) s p c = some ((), { s with heap := put d subs.toList s.heap }, p, c2 + 3 + 6 * subs.size) := by
  unfold mergeMapping
  refine (ev_bind hI).trans ?_
  dsimp only
  rw [if_pos rfl]
  refine (ev_bind hS).trans ?_
  dsimp only
  refine (ev_bind (r := (true, s, p, c2)) rfl).trans ?_
  dsimp only
  rw [hsm]
  simp only [Bool.false_eq_true, if_false]
  refine (ev_bind (ev_entries hd)).trans ?_
  dsimp only
  rw [hes]
  simp only [Bool.false_eq_true, if_false]
  refine (ev_bind (ev_entries ha)).trans ?_
  dsimp only
  refine (ev_bind (ev_epoch ha)).trans ?_
  dsimp only
  rw [List.range_eq_range']
  rw [show List.range' 0 subs.size = List.range' 0 subs.toList.length by rw [Array.length_toList]]
  refine (ev_bind (ev_loop (es := es) (n := n) hda subs m hn _ ?body subs.toList 0 s p (c2 + 1 + 1 + 1) (fun i => by simp) hp hnd hno (by simpa using hsz) hd ha)).trans ?_
  rotate_left
  · rw [Array.length_toList]
    show some _ = some _
    rfl
  · intro i e s0 p0 c0 s1 c1' hi h0 h1 hput
    refine (ev_bind (ev_entries h0)).trans ?_
    dsimp only
    rw [hi]
    dsimp only
    have hh : evS st n₀ ann (holding [e.key, e.val] (dictPut d e.hash e.key e.val)) s0 p0 (c0 + 1) = some ((), s1, p0, c1') := by
      have ⟨k, t, v, tv, e1, e2⟩ := hp e (by
        have := Array.mem_of_getElem? hi
        exact Array.mem_def.mp this)
      rw [e1, e2] at hput ⊢
      exact hput
    refine (ev_bind hh).trans ?_
    dsimp only
    refine (ev_bind (ev_epoch h1)).trans ?_
    dsimp only
    rw [show (m != m) = false by simp]
    rfl
end
end Wr50
end
section
set_option maxRecDepth 100000
set_option maxHeartbeats 4000000
namespace Wr50
open PySem PySem.W PySem.Calls PyProof.Rows
section
variable {st : Setting} {n₀ : Nat} {ann : Option Value}
theorem ev_keep {α : Type} {m : Sem α} {l : List Value} {s : Shared} {p : Pos} {n : Nat} {r : α × Shared × Pos × Nat} (h : evS st n₀ ann m s p n = some r) : evS st n₀ ann (m.keep l) s p n = some r := by
  rw [Sem.keep_eq_wrap]
  exact evS_wrap _ _ _ _ _ _ _ _ _ _ _ _ h
theorem ev_onRaise {α : Type} {m : Sem α} {H : Value → Sem Unit} {s : Shared} {p : Pos} {n : Nat} {r : α × Shared × Pos × Nat} (h : evS st n₀ ann m s p n = some r) : evS st n₀ ann (m.onRaise H) s p n = some r := by
  rw [Sem.onRaise_eq_wrap]
  exact evS_wrap _ _ _ _ _ _ _ _ _ _ _ _ h
theorem step_few (k v : Sem Value) (main : Option Addr) (run : List (Sem Value × Sem Value)) (h : ((run ++ [(k, v)]).length == 17) = false) (s : Shared) (p : Pos) (n : Nat) :
    evS st n₀ ann (ddf (some k, v) (main, run)) s p n = some (.yield (main, run ++ [(k, v)]), s, p, n) := by
  unfold ddf ddfg
  dsimp only
  rw [h]
  rfl
theorem step17 (k v : Sem Value) (d sub : Addr) (run : List (Sem Value × Sem Value)) (h : ((run ++ [(k, v)]).length == 17) = true) {s s1 s2 : Shared} {p p1 p2 : Pos} {n n1 n2 : Nat}
    (h1 : evS st n₀ ann (subDict (run ++ [(k, v)])) s p n = some (sub, s1, p1, n1)) (h2 : evS st n₀ ann (mergeMapping d (.ref sub) false) s1 p1 n1 = some ((), s2, p2, n2)) :
    evS st n₀ ann (ddf (some k, v) (some d, run)) s p n = some (.yield (some d, []), s2, p2, n2) := by
  have hne : (run ++ [(k, v)]).isEmpty = false := by simp
  unfold ddf ddfg
  dsimp only
  rw [h, hne]
  simp only [if_true, Bool.false_eq_true, if_false]
  refine (ev_bind (r := (some d, s2, p2, n2)) ?_).trans rfl
  refine (ev_bind (ev_keep h1)).trans ?_
  refine (ev_bind (ev_onRaise (ev_keep h2))).trans rfl
theorem lp_run : ∀ (c run : List (Sem Value × Sem Value)) (main : Option Addr) (s : Shared) (p : Pos) (n : Nat), run.length + c.length ≤ 16 →
    lpS st n₀ ann ddf (c.map fun kv => (some kv.1, kv.2)) (main, run) s p n = some ((main, run ++ c), s, p, n)
  | [], run, main, s, p, n, _ => by simp [lpS]
  | (k, v) :: c, run, main, s, p, n, h => by
    rw [List.map_cons, lpS, step_few k v main run (by simp at h ⊢; omega)]
    dsimp only
    rw [lp_run c (run ++ [(k, v)]) main s p n (by simp at h ⊢; omega)]
    simp
/-- a chunk of seventeen goes over -/
theorem lp_chunk (c : List (Sem Value × Sem Value)) (kv : Sem Value × Sem Value) (hc : c.length = 16) (d sub : Addr) {s s1 s2 : Shared} {p p1 p2 : Pos} {n n1 n2 : Nat}
    (h1 : evS st n₀ ann (subDict (c ++ [kv])) s p n = some (sub, s1, p1, n1)) (h2 : evS st n₀ ann (mergeMapping d (.ref sub) false) s1 p1 n1 = some ((), s2, p2, n2)) :
    lpS st n₀ ann ddf ((c ++ [kv]).map fun kv => (some kv.1, kv.2)) (some d, []) s p n = some ((some d, []), s2, p2, n2) := by
  rw [List.map_append, lpS_app, lp_run c [] (some d) s p n (by simp [hc])]
  show lpS st n₀ ann ddf [(some kv.1, kv.2)] (some d, [] ++ c) s p n = _
  rw [lpS, step17 kv.1 kv.2 d sub ([] ++ c) (by simp [hc]) (by simpa using h1) h2]
  rfl
end
end Wr50
end
section
set_option maxRecDepth 100000
set_option maxHeartbeats 4000000
namespace Wr50
open PySem PySem.W PySem.Calls PyProof.Rows
section
variable {st : Setting} {n₀ : Nat} {ann : Option Value}
theorem ev_tryCatch {α : Type} {m : Sem α} {H : Value → Sem α} {s : Shared} {p : Pos} {n : Nat} {r : α × Shared × Pos × Nat} (h : evS st n₀ ann m s p n = some r) : evS st n₀ ann (m.tryCatch H) s p n = some r := by
  rw [Sem.tryCatch_eq_wrap]
  exact evS_wrap _ _ _ _ _ _ _ _ _ _ _ _ h
theorem sp_hash (k : Int) (t : Tok) : specialOf (.int k t) "__hash__" = Sem.pure (some (.builtin "int.__hash__")) := slot_int_hash.lookup
theorem ev_callhash (k : Nat) (hk : k < 1000000) (t : Tok) (s : Shared) (p : Pos) (c : Nat) : evS st n₀ ann (call (.builtin "int.__hash__") [.int (k : Int) t]) s p c = some (.int (k : Int) s.toks, { s with toks := s.toks + 1 }, p, c + 4) := by
  have hh : hashArg? (hsC (k : Int) t) = some k := by
    show (if ("int.__hash__" == "int.__hash__" && Nat.blt k 1000000) = true then some k else none) = some k
    rw [if_pos]
    rw [Bool.and_eq_true]
    exact ⟨rfl, Nat.ble_eq_true_of_le hk⟩
  unfold call runValue
  refine (ev_bind (r := (Flow.ret (.int (k : Int) s.toks), { s with toks := s.toks + 1 }, p, c + 4)) ?_).trans rfl
  unfold run
  show (hashArg? (hsC (k : Int) t)).elim none _ = _
  rw [hh]; rfl
theorem ev_hash (k : Nat) (hk : k < 1000000) (t : Tok) (s : Shared) (p : Pos) (c : Nat) : evS st n₀ ann (pyHash (.int (k : Int) t)) s p c = some ((k : Int), { s with toks := s.toks + 1 }, p, c + 5) := by
  show evS st n₀ ann (pyHashByItsType (.int (k : Int) t)) s p c = _
  unfold pyHashByItsType
  have hv : [Value.int (k : Int) t].any Value.onHeap = false := rfl
  rw [cRoomFor, if_neg (by rw [hv]; exact Bool.false_ne_true)]
  refine (ev_bind (r := ((), s, p, c)) rfl).trans ?_
  dsimp only
  refine (ev_bind (r := (some (.builtin "int.__hash__"), s, p, c)) (by rw [sp_hash]; rfl)).trans ?_
  dsimp only
  rw [if_neg (by rw [beq_builtin_none]; exact Bool.false_ne_true)]
  refine (ev_bind (r := (some (.builtin "int.__hash__"), s, p, c)) (by rw [sp_hash]; rfl)).trans ?_
  dsimp only
  simp only [Option.isNone_some, Bool.false_eq_true, if_false]
  refine (ev_bind (r := (some (.int (k : Int) s.toks), { s with toks := s.toks + 1 }, p, c + 5)) ?_).trans ?_
  · unfold callSpecialIfBoundUnlessNone? bindSpecialIfBound?
    show evS st n₀ ann (_ >>= _) s p c = _
    refine (ev_bind (r := (some (.builtin "int.__hash__", [.int (k : Int) t]), s, p, c + 1)) ?_).trans ?_
    · refine (ev_bind (r := (some (.builtin "int.__hash__"), s, p, c)) (by rw [sp_hash]; rfl)).trans ?_
      dsimp only
      rw [slot_int_hash.bind]
      refine (ev_bind (r := (st, s, p, c + 1)) rfl).trans ?_
      dsimp only
      split
      · rfl
      · exact ev_tryCatch rfl
    · dsimp only
      rw [if_neg (by rw [builtin_beq_none]; exact Bool.false_ne_true)]
      exact (ev_bind (ev_callhash k hk t s p (c + 1))).trans rfl
  · dsimp only
    show evS st n₀ ann (pyHashByItsType.reduced (k : Int)) _ _ _ = _
    unfold pyHashByItsType.reduced
    have h1 : (decide (-(2 ^ 63 : Int) ≤ (k : Int)) && decide ((k : Int) < 2 ^ 63)) = true := by
      rw [Bool.and_eq_true]; exact ⟨decide_eq_true (by omega), decide_eq_true (by omega)⟩
    rw [if_pos h1, if_neg (by simp only [beq_iff_eq]; omega)]
    rfl
noncomputable def EntOk (st : Setting) (n₀ : Nat) (ann : Option Value) (kv : Sem Value × Sem Value) (k : Nat) (x : PySem.Str) : Prop := k < 1000000 ∧
  (∀ s p c, evS st n₀ ann kv.1 s p c = some (.int (k : Int) s.toks, { s with toks := s.toks + 1 }, p, c + 1)) ∧ (∀ s p c, evS st n₀ ann kv.2 s p c = some (.str x s.toks, { s with toks := s.toks + 1 }, dPos, c + 2))
noncomputable abbrev entK (k : Nat) (x : PySem.Str) (t : Nat) : DictEntry := ⟨(k : Int), .int (k : Int) t, .str x (t + 1)⟩
theorem ev_set {s : Shared} {p : Pos} {c : Nat} {d : Addr} {es : Array DictEntry} {n : Nat} {k : Nat} (hk : k < 1000000) {t tv : Tok} {v : PySem.Str} (hg : s.heap.get? d = some (dObj es n)) (hno : ∀ e ∈ es.toList, e.hash ≠ (k : Int)) (hsz : es.size < 100000) (hn : Nat.ble n₀ d = true) :
    evS st n₀ ann (dictSet d (.int (k : Int) t) (.str v tv)) s p c = some ((), { s with heap := s.heap.update d (Obj.mapDictKeys (·.push ⟨(k : Int), .int (k : Int) t, .str v tv⟩)), toks := s.toks + 1 }, p, c + 10) := by
  unfold dictSet
  simp only [holding, List.filter_cons, List.filter_nil, Bool.false_eq_true, if_false]
  refine (ev_bind (ev_hash k hk t s p c)).trans ?_
  dsimp only
  unfold dictSetHashed
  simp only [holding, List.filter_cons, List.filter_nil, Bool.false_eq_true, if_false]
  refine (ev_bind (ev_find (s := { s with toks := s.toks + 1 }) (es := es) (n := n) hg hno)).trans ?_
  dsimp only
  refine (ev_bind (r := ((), { s with toks := s.toks + 1 }, p, c + 5 + 1 + 1)) rfl).trans ?_
  dsimp only
  unfold updateDictKeys
  refine (ev_bind (ev_load (s := { s with toks := s.toks + 1 }) (o := dObj es n) hg)).trans ?_
  dsimp only
  refine (ev_bind (ev_update (s := { s with toks := s.toks + 1 }) (o := dObj es n) hg hn)).trans ?_
  dsimp only
  unfold lookBehind
  refine (ev_bind (ev_load (s := { s with heap := s.heap.update d (Obj.mapDictKeys (·.push ⟨(k : Int), .int (k : Int) t, .str v tv⟩)), toks := s.toks + 1 }) (get_push _ hg))).trans ?_
  dsimp only
  have hpast : (dObj (es.push ⟨(k : Int), .int (k : Int) t, .str v tv⟩) (n + 1)).data.pastItsLine = none := by
    show (if (es.push _).size > sizeLine + 1 then some "dict:memory" else none) = none
    rw [if_neg (by simp only [Array.size_push, sizeLine_eq]; omega)]
  rw [hpast]
  rfl
end
end Wr50
end
section
set_option maxRecDepth 100000
set_option maxHeartbeats 4000000
namespace Wr50
open PySem PySem.W PySem.Calls PyProof.Rows
/-- the entries of pairs, from a token on -/
noncomputable def entsK : List (Nat × PySem.Str) → Nat → List DictEntry
  | [], _ => []
  | (k, x) :: r, t => entK k x t :: entsK r (t + 3)
theorem entsK_hash : ∀ (l : List (Nat × PySem.Str)) (t : Nat), (entsK l t).map (·.hash) = l.map fun kx => (kx.1 : Int)
  | [], _ => rfl
  | (k, x) :: r, t => by rw [entsK, List.map_cons, List.map_cons, entsK_hash r (t + 3)]
section
variable {st : Setting} {n₀ : Nat} {ann : Option Value}
theorem ev_pairs {d : Addr} (hn : Nat.ble n₀ d = true) (body : Sem Value × Sem Value → PUnit → Sem (ForInStep PUnit))
    (hb : ∀ (kv : Sem Value × Sem Value) (k : Nat) (x : PySem.Str) (s : Shared) (p : Pos) (c : Nat) (s' : Shared), EntOk st n₀ ann kv k x →
      evS st n₀ ann (dictSet d (.int (k : Int) s.toks) (.str x (s.toks + 1))) { s with toks := s.toks + 1 + 1 } dPos (c + 3) = some ((), s', dPos, c + 13) → evS st n₀ ann (body kv ⟨⟩) s p c = some (.yield ⟨⟩, s', dPos, c + 13)) :
    ∀ (l : List (Sem Value × Sem Value)) (ks : List (Nat × PySem.Str)) (s : Shared) (p : Pos) (c : Nat) (es : Array DictEntry) (n : Nat), l.length = ks.length → (∀ z ∈ l.zip ks, EntOk st n₀ ann z.1 z.2.1 z.2.2) →
      (ks.map (·.1)).Nodup → (∀ e ∈ es.toList, ∀ kx ∈ ks, e.hash ≠ (kx.1 : Int)) → es.size + ks.length < 100000 → s.heap.get? d = some (dObj es n) →
      evS st n₀ ann (forIn l (⟨⟩ : PUnit) body) s p c = some (⟨⟩, { s with heap := put d (entsK ks s.toks) s.heap, toks := s.toks + 3 * ks.length }, (if l.isEmpty then p else dPos), c + 13 * ks.length)
  | [], [], s, p, c, es, n, _, _, _, _, _, _ => rfl
  | [], kx :: ks, s, p, c, es, n, hl, _, _, _, _, _ => by simp at hl
  | kv :: l, [], s, p, c, es, n, hl, _, _, _, _, _ => by simp at hl
  | kv :: l, (k, x) :: ks, s, p, c, es, n, hl, hz, hnd, hno, hsz, hd => by
    have ok := hz (kv, (k, x)) (.head _)
    have hset := ev_set (st := st) (n₀ := n₀) (ann := ann) (s := { s with toks := s.toks + 1 + 1 }) (p := dPos) (c := c + 3) (t := s.toks) (tv := s.toks + 1) (v := x) ok.1 hd (fun e he => hno e he (k, x) (.head _)) (by simp at hsz; omega) hn
    have hbody := hb kv k x s p c _ ok hset
    rw [List.forIn_cons]
    refine (ev_bind hbody).trans ?_
    dsimp only
    have ih := ev_pairs hn body hb l ks { s with heap := s.heap.update d (Obj.mapDictKeys (·.push (entK k x s.toks))), toks := s.toks + 1 + 1 + 1 } dPos (c + 13) (es.push (entK k x s.toks)) (n + 1) (by simpa using hl)
      (fun z hzz => hz z (.tail _ hzz)) (by simp at hnd ⊢; exact hnd.2)
      (fun e he kx hk => by
        simp at he
        rcases he with he | he
        · exact hno e (by simpa using he) kx (.tail _ hk)
        · subst he
          simp at hnd
          intro h
          have h2 : k = kx.1 := by have h3 : ((k : Nat) : Int) = kx.1 := h; omega
          exact hnd.1 kx.2 (by rw [h2]; exact hk))
      (by simp at hsz ⊢; omega) (get_push _ hd)
    refine ih.trans ?_
    rw [entsK, put]
    have e1 : (if l.isEmpty then dPos else dPos) = dPos := by split <;> rfl
    rw [e1]
    show some _ = some _
    congr 3
    · congr 1
      simp; omega
    · congr 1
      simp; omega
theorem ev_sub {l : List (Sem Value × Sem Value)} {ks : List (Nat × PySem.Str)} (hlong : ¬ l.length ≤ 15) {s : Shared} {p : Pos} {c : Nat} (hn : Nat.ble n₀ s.heap.objs.size = true) (hl : l.length = ks.length)
    (hz : ∀ z ∈ l.zip ks, EntOk st n₀ ann z.1 z.2.1 z.2.2) (hnd : (ks.map (·.1)).Nodup) (hsz : ks.length < 1000) (hg : (s.heap.push (dObj #[] 0)).get? s.heap.objs.size = some (dObj #[] 0)) :
    evS st n₀ ann (subDict l) s p c = some (s.heap.objs.size, { s with heap := put s.heap.objs.size (entsK ks s.toks) (s.heap.push (dObj #[] 0)), toks := s.toks + 3 * ks.length }, dPos, c + 2 + 13 * ks.length) := by
  unfold subDict
  refine (ev_bind (r := (s.heap.objs.size, { s with heap := s.heap.push (dObj #[] 0) }, p, c + 1)) rfl).trans ?_
  dsimp only
  refine (ev_bind (r := ((), { s with heap := put s.heap.objs.size (entsK ks s.toks) (s.heap.push (dObj #[] 0)), toks := s.toks + 3 * ks.length }, dPos, c + 2 + 13 * ks.length)) ?_).trans rfl
  refine ev_keep (l := [.ref s.heap.objs.size]) ?_
  rw [if_neg hlong]
  refine (ev_bind (r := ((), { s with heap := s.heap.push (dObj #[] 0) }, p, c + 1 + 1)) rfl).trans ?_
  dsimp only
  have hne : l.isEmpty = false := by cases l with
    | nil => simp at hlong
    | cons a b => rfl
  refine (ev_bind (ev_pairs (st := st) (n₀ := n₀) (ann := ann) (d := s.heap.objs.size) hn _ ?hb l ks { s with heap := s.heap.push (dObj #[] 0) } p (c + 1 + 1) #[] 0 hl hz hnd (fun e he => by simp at he) (by simp; omega) hg)).trans ?_
  case hb =>
    intro kv k x s p c s' ok hset
    refine (ev_bind (ok.2.1 s p c)).trans ?_
    dsimp only
    refine (ev_bind (m := holding [.int (k : Int) s.toks] kv.2) (ok.2.2 { s with toks := s.toks + 1 } p (c + 1))).trans ?_
    dsimp only
    exact (ev_bind (m := holding [.int (k : Int) s.toks, .str x (s.toks + 1)] (dictSet _ (.int (k : Int) s.toks) (.str x (s.toks + 1)))) hset).trans rfl
  rw [hne]
  rfl
end
end Wr50
end
section
set_option maxRecDepth 100000
set_option maxHeartbeats 4000000
namespace Wr50
open PySem PySem.W PySem.Calls PyProof.Rows
section
variable {st : Setting} {n₀ : Nat} {ann : Option Value}
theorem ev_typeOf {s : Shared} {p : Pos} {c : Nat} {a : Addr} {es : Array DictEntry} {n : Nat} (hg : s.heap.get? a = some (dObj es n)) : evS st n₀ ann (typeOf (.ref a)) s p c = some (.type "dict", s, p, c + 1) := by
  unfold typeOf
  exact (ev_bind (ev_load (o := dObj es n) hg)).trans rfl
theorem ev_isdict {s : Shared} {p : Pos} {c : Nat} {a : Addr} {es : Array DictEntry} {n : Nat} (hg : s.heap.get? a = some (dObj es n)) : evS st n₀ ann (isInstance (.ref a) (.type "dict")) s p c = some (true, s, p, c + 1) := by
  unfold isInstance
  refine (ev_bind (ev_typeOf hg)).trans ?_
  dsimp only
  have e : isSubtype (.type "dict") (.type "dict") = Sem.pure true := by kernel_rfl
  rw [e]; rfl
theorem ev_iter {s : Shared} {p : Pos} {c : Nat} {a : Addr} {es : Array DictEntry} {n : Nat} (hg : s.heap.get? a = some (dObj es n)) : evS st n₀ ann (specialOf (.ref a) "__iter__") s p c = some (some (.builtin "dict.__iter__"), s, p, c + 1) := by
  unfold specialOf
  refine (ev_bind (ev_typeOf hg)).trans ?_
  dsimp only
  have e : typeLookup (.type "dict") "__iter__" = Sem.pure (some (.builtin "dict.__iter__")) := by kernel_rfl
  rw [e]; rfl
theorem put_other {d b : Addr} (hdb : d ≠ b) : ∀ (xs : List DictEntry) (H : Heap), (put d xs H).get? b = H.get? b
  | [], H => rfl
  | x :: xs, H => by rw [put, put_other hdb xs]; exact Heap.get?_update_other _ _ hdb
theorem entsK_len : ∀ (ks : List (Nat × PySem.Str)) (t : Nat), (entsK ks t).length = ks.length
  | [], _ => rfl
  | (k, x) :: r, t => by rw [entsK, List.length_cons, entsK_len r, List.length_cons]
theorem entsK_plain : ∀ (ks : List (Nat × PySem.Str)) (t : Nat), ∀ e ∈ entsK ks t, plainE e
  | [], _, e, h => nomatch h
  | (k, x) :: r, t, e, h => by
    rw [entsK] at h
    rcases List.mem_cons.mp h with rfl | h
    · exact ⟨_, _, _, _, rfl, rfl⟩
    · exact entsK_plain r _ e h
theorem nodup_cast {ks : List (Nat × PySem.Str)} (h : (ks.map (·.1)).Nodup) : (ks.map fun kx => (kx.1 : Int)).Nodup := by
  unfold List.Nodup at h ⊢
  rw [List.pairwise_map] at h ⊢
  exact h.imp fun h2 h3 => h2 (by omega)
theorem lp_big {l : List (Sem Value × Sem Value)} {ks : List (Nat × PySem.Str)} (h17 : l.length = 17) (hl : ks.length = 17) {s : Shared} {c : Nat} {d : Addr} (hn : Nat.ble n₀ s.heap.objs.size = true) (hnd' : Nat.ble n₀ d = true) (hda : d ≠ s.heap.objs.size) (hsm : (s.heap.objs.size == sysModules) = false)
    (hz : ∀ z ∈ l.zip ks, EntOk st n₀ ann z.1 z.2.1 z.2.2) (hnd : (ks.map (·.1)).Nodup) {es : Array DictEntry} {n : Nat} (hd : s.heap.get? d = some (dObj es n)) (hes : es.isEmpty = false) (hsz : es.size < 10000) (hno : ∀ e ∈ es.toList, ∀ kx ∈ ks, e.hash ≠ (kx.1 : Int)) :
    lpS st n₀ ann ddf (l.map fun kv => (some kv.1, kv.2)) (some d, []) s dPos c = some ((some d, []), { s with heap := put d (entsK ks s.toks) (put s.heap.objs.size (entsK ks s.toks) (s.heap.push (dObj #[] 0))), toks := s.toks + 51 }, dPos, c + 330) := by
  have hg : (s.heap.push (dObj #[] 0)).get? s.heap.objs.size = some (dObj #[] 0) := by
    cases s.heap; simp [Heap.push, Heap.get?]
  have hdp : (s.heap.push (dObj #[] 0)).get? d = some (dObj es n) := Heap.get?_push_of_some _ hd
  have hsub := ev_sub (st := st) (n₀ := n₀) (ann := ann) (p := dPos) (c := c) (by omega : ¬ l.length ≤ 15) hn (h17.trans hl.symm) hz hnd (by omega) hg
  have hd2 : (put s.heap.objs.size (entsK ks s.toks) (s.heap.push (dObj #[] 0))).get? d = some (dObj es n) := (put_other (Ne.symm hda) _ _).trans hdp
  have ha2 := put_get (entsK ks s.toks) _ _ _ hg
  have hm := ev_merge (st := st) (n₀ := n₀) (ann := ann) hda hsm (subs := #[] ++ (entsK ks s.toks).toArray) (es := es) (m := 0 + (entsK ks s.toks).length) (n := n) hnd' (p := dPos) (c := c + 2 + 13 * ks.length)
    (s := { s with heap := put s.heap.objs.size (entsK ks s.toks) (s.heap.push (dObj #[] 0)), toks := s.toks + 3 * ks.length })
    (ev_isdict ha2) (ev_iter ha2) (fun e he => entsK_plain ks s.toks e (by simpa using he)) (by simp only [Array.empty_append, entsK_hash]; exact nodup_cast hnd)
    (fun e he x hx => by
      simp at hx
      have hm : x.hash ∈ (entsK ks s.toks).map (·.hash) := List.mem_map_of_mem hx
      rw [entsK_hash] at hm
      obtain ⟨kx, hk, e2⟩ := List.mem_map.mp hm
      rw [← e2]; exact hno e he kx hk) (by simp [entsK_len]; omega) hes hd2 ha2
  obtain ⟨c16, kv, rfl⟩ : ∃ c16 kv, l = c16 ++ [kv] := ⟨l.dropLast, l.getLast (by intro e; rw [e] at h17; simp at h17), (List.dropLast_concat_getLast _).symm⟩
  have := lp_chunk c16 kv (by simpa using h17) d _ hsub hm
  rw [this]
  simp [entsK_len, hl]
end
end Wr50
end
section
set_option maxRecDepth 100000
set_option maxHeartbeats 4000000
namespace Wr50
open PySem PySem.W PySem.Calls PyProof.Rows
theorem upd_const {H : Heap} {d : Addr} {o : Obj} (f : Obj → Obj) (hg : H.get? d = some o) : H.update d f = H.update d (fun _ => f o) := by
  obtain ⟨objs, l⟩ := H
  have ho : objs[d]? = some o := by
    unfold Heap.get? at hg
    split at hg
    · cases hg
    · exact hg
  show (⟨objs.modify d f, l⟩ : Heap) = ⟨objs.modify d _, l⟩
  congr 1
  apply Array.ext_getElem?
  intro i
  rw [Array.getElem?_modify, Array.getElem?_modify]
  by_cases h : d = i
  · subst h; rw [if_pos rfl, if_pos rfl, ho]; rfl
  · rw [if_neg h, if_neg h]
theorem upd_upd (H : Heap) (d : Addr) (f g : Obj → Obj) : (H.update d f).update d g = H.update d (fun o => g (f o)) := by
  obtain ⟨objs, l⟩ := H
  show (⟨(objs.modify d f).modify d g, l⟩ : Heap) = ⟨objs.modify d _, l⟩
  congr 1
  apply Array.ext_getElem?
  intro i
  rw [Array.getElem?_modify, Array.getElem?_modify, Array.getElem?_modify]
  by_cases h : d = i
  · subst h; simp only [if_true]; cases objs[d]? <;> rfl
  · simp only [if_neg h]
theorem put_upd {d : Addr} : ∀ (xs : List DictEntry) (H : Heap) (es : Array DictEntry) (n : Nat), H.get? d = some (dObj es n) → put d xs H = H.update d (fun _ => dObj (es ++ xs.toArray) (n + xs.length))
  | [], H, es, n, h => by
    rw [put]
    obtain ⟨objs, l⟩ := H
    have ho : objs[d]? = some (dObj es n) := by
      unfold Heap.get? at h
      split at h
      · cases h
      · exact h
    show (⟨objs, l⟩ : Heap) = ⟨objs.modify d _, l⟩
    congr 1
    apply Array.ext_getElem?
    intro i
    rw [Array.getElem?_modify]
    by_cases hd : d = i
    · subst hd; rw [if_pos rfl, ho]; simp
    · rw [if_neg hd]
  | x :: xs, H, es, n, h => by
    rw [put, put_upd xs _ _ _ (get_push x h), upd_upd]
    have e1 : es.push x ++ xs.toArray = es ++ (x :: xs).toArray := by simp
    have e2 : n + 1 + xs.length = n + (x :: xs).length := by simp; omega
    rw [e1, e2]
theorem put_new {H : Heap} (xs : List DictEntry) : put H.objs.size xs (H.push (dObj #[] 0)) = H.push (dObj xs.toArray xs.length) := by
  have hg : (H.push (dObj #[] 0)).get? H.objs.size = some (dObj #[] 0) := by
    cases H; simp [Heap.push, Heap.get?]
  rw [put_upd xs _ _ _ hg]
  obtain ⟨objs, l⟩ := H
  show (⟨(objs.push _).modify objs.size _, l⟩ : Heap) = ⟨objs.push _, l⟩
  congr 1
  apply Array.ext_getElem?
  intro i
  rw [Array.getElem?_modify, Array.getElem?_push, Array.getElem?_push]
  by_cases h : objs.size = i
  · subst h; simp
  · rw [if_neg h, if_neg (Ne.symm h), if_neg (Ne.symm h)]
end Wr50
end
section
set_option maxRecDepth 100000
set_option maxHeartbeats 4000000
namespace Wr50
open PySem PySem.W PySem.Calls PyProof.Rows
noncomputable def dE : List (Option Expr × Expr) := dKeys.zip dVals
noncomputable def mkP (e : Option Expr × Expr) : Sem Value × Sem Value := ((evalOpt e.1 envT).getD (.pure .none), do let x ← eval e.2 envT; standAt dPos; pure x)
noncomputable def tabOf (e : Option Expr × Expr) : Nat × PySem.Str := match kvOf e with
  | some (k, x) => (k.toNat, x)
  | none => (0, Str.empty)
noncomputable def okE (e : Option Expr × Expr) : Bool := match kvOf e with
  | some (k, _) => decide (0 ≤ k) && decide (k < 1000000)
  | none => false
theorem okE_all : dE.all okE = true := by kernel_rfl!
theorem its_map : its = (dE.map mkP).map fun kv => (some kv.1, kv.2) := by kernel_rfl!
theorem dE_len : dE.length = 650 := by kernel_rfl!
noncomputable def inc : List Nat → Bool
  | a :: b :: r => Nat.blt a b && inc (b :: r)
  | _ => true
theorem inc_lt : ∀ (l : List Nat) (a : Nat), inc (a :: l) = true → ∀ x ∈ l, a < x
  | [], _, _, x, h => nomatch h
  | b :: r, a, h, x, hx => by
    rw [inc, Bool.and_eq_true] at h
    have h1 : a < b := Nat.le_of_ble_eq_true h.1
    rcases List.mem_cons.mp hx with rfl | hx
    · exact h1
    · exact Nat.lt_trans h1 (inc_lt r b h.2 x hx)
theorem inc_nodup : ∀ (l : List Nat), inc l = true → l.Nodup
  | [], _ => List.nodup_nil
  | a :: r, h => by
    have hr : inc r = true := by
      cases r with
      | nil => rfl
      | cons b r => rw [inc, Bool.and_eq_true] at h; exact h.2
    exact List.nodup_cons.mpr ⟨fun hm => Nat.lt_irrefl _ (inc_lt r a h a hm), inc_nodup r hr⟩
theorem tab_nd : (dE.map fun e => (tabOf e).1).Nodup := inc_nodup _ (by kernel_rfl!)
theorem entOk {st : Setting} {n₀ : Nat} {ann : Option Value} {e : Option Expr × Expr} (he : okE e = true) : EntOk st n₀ ann (mkP e) (tabOf e).1 (tabOf e).2 := by
  unfold okE at he
  unfold tabOf
  cases hk : kvOf e with
  | none => rw [hk] at he; cases he
  | some kx =>
    obtain ⟨k, x⟩ := kx
    rw [hk] at he
    obtain ⟨h0, h1⟩ := Bool.and_eq_true_iff.mp he
    have h0 := of_decide_eq_true h0
    have h1 := of_decide_eq_true h1
    dsimp only
    unfold kvOf at hk
    split at hk
    · rename_i k' z q x' z' q'
      simp only [Option.some.injEq, Prod.mk.injEq] at hk
      obtain ⟨rfl, rfl⟩ := hk
      obtain ⟨m, rfl⟩ := Int.eq_ofNat_of_zero_le h0
      exact ⟨by omega, fun s p c => rfl, fun s p c => rfl⟩
    · cases hk
end Wr50
end
section
set_option maxRecDepth 100000
set_option maxHeartbeats 4000000
namespace Wr50
open PySem PySem.W PySem.Calls PyProof.Rows
theorem upd_mid (A B : List Obj) (x y : Obj) (l : Life) : (⟨(A ++ x :: B).toArray, l⟩ : Heap).update A.length (fun _ => y) = ⟨(A ++ y :: B).toArray, l⟩ := by
  show (⟨(A ++ x :: B).toArray.modify A.length _, l⟩ : Heap) = _
  congr 1
  apply Array.ext_getElem?
  intro i
  rw [Array.getElem?_modify]
  by_cases h : A.length = i
  · subst h; simp
  · rw [if_neg h]
    simp only [List.getElem?_toArray, List.getElem?_append, List.getElem?_cons]
    split
    · rfl
    · rw [if_neg (by omega), if_neg (by omega)]
theorem entsK_take : ∀ (l : List (Nat × PySem.Str)) (t m : Nat), (entsK l t).take m = entsK (l.take m) t
  | [], _, _ => by simp [entsK]
  | _ :: _, _, 0 => by simp [entsK]
  | (k, x) :: r, t, m + 1 => by rw [entsK, List.take_succ_cons, List.take_succ_cons, entsK, entsK_take r]
theorem entsK_drop : ∀ (l : List (Nat × PySem.Str)) (t m : Nat), (entsK l t).drop m = entsK (l.drop m) (t + 3 * m)
  | [], _, _ => by simp [entsK]
  | _ :: _, _, 0 => by simp
  | (k, x) :: r, t, m + 1 => by rw [entsK, List.drop_succ_cons, List.drop_succ_cons, entsK_drop r]; congr 1; omega
noncomputable def esA : List DictEntry := entsK (dE.map tabOf) 256
noncomputable def base33 (P : Params) : List Obj := (hp3 P).objs.toList
theorem base33_len (P : Params) : (base33 P).length = 33 := by kernel_rfl!
noncomputable def chE (j : Nat) : List DictEntry := (esA.drop (17 * j)).take 17
noncomputable def HD (P : Params) (j : Nat) : Heap := ⟨(base33 P ++ dObj (esA.take (17 * j)).toArray (17 * j) :: (List.range (j - 1)).map fun i => dObj (chE (i + 1)).toArray 17).toArray, life0⟩
noncomputable def SD (w : World) (os : OsState) (j : Nat) : Shared := ⟨HD w.params j, #[], drawn0, 256 + 51 * j, os⟩
theorem HD_size (P : Params) (j : Nat) (h : 1 ≤ j) : (HD P j).objs.size = 33 + j := by
  unfold HD; simp [base33_len]; omega
theorem HD_main (P : Params) (j : Nat) : (HD P j).get? 33 = some (dObj (esA.take (17 * j)).toArray (17 * j)) := by
  unfold HD Heap.get?
  have e : ∀ (A B : List Obj) (x : Obj), (A ++ x :: B).toArray[A.length]? = some x := by intros; simp
  have := e (base33 P) ((List.range (j - 1)).map fun i => dObj (chE (i + 1)).toArray 17) (dObj (esA.take (17 * j)).toArray (17 * j))
  rw [base33_len] at this
  dsimp only
  rw [this]
theorem chE_eq (j : Nat) : chE j = entsK (((dE.drop (17 * j)).take 17).map tabOf) (256 + 51 * j) := by
  unfold chE esA
  rw [entsK_drop, entsK_take, List.map_take, List.map_drop]
  congr 1; omega
theorem chunk_len (j : Nat) (h : j ≤ 37) : ((dE.drop (17 * j)).take 17).length = 17 := by
  rw [List.length_take, List.length_drop, dE_len]; omega
theorem HD_next (P : Params) (j : Nat) (h1 : 1 ≤ j) (h2 : j ≤ 37) : put 33 (chE j) (put (HD P j).objs.size (chE j) ((HD P j).push (dObj #[] 0))) = HD P (j + 1) := by
  have hl : (chE j).length = 17 := by rw [chE_eq, entsK_len, List.length_map, chunk_len j h2]
  rw [put_new, put_upd (chE j) _ (esA.take (17 * j)).toArray (17 * j) (Heap.get?_push_of_some _ (HD_main P j)), hl]
  have e1 : (esA.take (17 * j)).toArray ++ (chE j).toArray = (esA.take (17 * (j + 1))).toArray := by
    rw [show 17 * (j + 1) = 17 * j + 17 by omega, List.take_add]; simp [chE]
  rw [e1]
  have e2 : (HD P j).push (dObj (chE j).toArray 17) = ⟨(base33 P ++ dObj (esA.take (17 * j)).toArray (17 * j) :: ((List.range j).map fun i => dObj (chE (i + 1)).toArray 17)).toArray, life0⟩ := by
    unfold HD Heap.push
    dsimp only
    congr 1
    have e3 : List.range j = List.range (j - 1) ++ [j - 1] := by
      have := List.range_succ (n := j - 1)
      rwa [show (j - 1).succ = j by omega] at this
    rw [e3, List.map_append]
    simp [show j - 1 + 1 = j by omega]
  rw [e2]
  have e4 := upd_mid (base33 P) ((List.range j).map fun i => dObj (chE (i + 1)).toArray 17) (dObj (esA.take (17 * j)).toArray (17 * j)) (dObj (esA.take (17 * (j + 1))).toArray (17 * j + 17)) life0
  rw [base33_len] at e4
  rw [e4]
  unfold HD
  rfl
end Wr50
end
section
set_option maxRecDepth 100000
set_option maxHeartbeats 4000000
namespace Wr50
open PySem PySem.W PySem.Calls PyProof.Rows
noncomputable def itm (e : Option Expr × Expr) : DIt := (some (mkP e).1, (mkP e).2)
theorem its_itm : its = dE.map itm := by rw [its_map, List.map_map]; rfl
theorem esA_hash : esA.map (·.hash) = dE.map fun e => ((tabOf e).1 : Int) := by rw [esA, entsK_hash, List.map_map]; rfl
theorem esA_len : esA.length = 650 := by rw [esA, entsK_len, List.length_map, dE_len]
theorem apart (m : Nat) : ∀ e ∈ esA.take m, ∀ x ∈ dE.drop m, e.hash ≠ ((tabOf x).1 : Int) := by
  intro e he x hx h
  have h1 : e.hash ∈ (esA.take m).map (·.hash) := List.mem_map_of_mem he
  rw [List.map_take, esA_hash, ← List.map_take] at h1
  obtain ⟨y, hy, e1⟩ := List.mem_map.mp h1
  have hn := tab_nd
  rw [← List.take_append_drop m dE, List.map_append, List.nodup_append] at hn
  refine hn.2.2 (tabOf y).1 (List.mem_map_of_mem hy) (tabOf x).1 (List.mem_map_of_mem hx) ?_
  have : ((tabOf y).1 : Int) = (tabOf x).1 := e1.trans h
  omega
theorem ok_of {e : Option Expr × Expr} (h : e ∈ dE) : okE e = true := List.all_eq_true.mp okE_all e h
theorem zip_ok {st : Setting} {n₀ : Nat} {ann : Option Value} : ∀ (l : List (Option Expr × Expr)), (∀ e ∈ l, e ∈ dE) → ∀ z ∈ (l.map mkP).zip (l.map tabOf), EntOk st n₀ ann z.1 z.2.1 z.2.2
  | [], _, z, hz => by simp at hz
  | e :: l, h, z, hz => by
    rw [List.map_cons, List.map_cons, List.zip_cons_cons] at hz
    rcases List.mem_cons.mp hz with rfl | hz
    · exact entOk (ok_of (h e (.head _)))
    · exact zip_ok l (fun x hx => h x (.tail _ hx)) z hz
theorem nd_sub (a b : Nat) : ((((dE.drop a).take b).map tabOf).map (·.1)).Nodup := by
  rw [List.map_map]
  have h : List.Sublist (((dE.drop a).take b).map (fun e => (tabOf e).1)) (dE.map fun e => (tabOf e).1) := ((List.take_sublist _ _).trans (List.drop_sublist _ _)).map _
  exact h.nodup tab_nd
theorem big_ne (j : Nat) : ((33 + j : Nat) == sysModules) = false := by
  refine beq_eq_false_iff_ne.mpr fun e => ?_
  have h9 : (33 + j : Nat) = 1 := e
  omega
theorem chunk_go (w : World) (os : OsState) (j : Nat) (h1 : 1 ≤ j) (h2 : j ≤ 37) (c : Nat) :
    lpS ⟨PW, w.params⟩ 11 (some (.ref 6)) ddf (((dE.drop (17 * j)).take 17).map itm) (some 33, []) (SD w os j) dPos c = some ((some 33, []), SD w os (j + 1), dPos, c + 330) := by
  have hsz := HD_size w.params j h1
  have hmem : ∀ e ∈ (dE.drop (17 * j)).take 17, e ∈ dE := fun e he => List.mem_of_mem_drop (List.mem_of_mem_take he)
  have hlen : (esA.take (17 * j)).length = 17 * j := by rw [List.length_take, esA_len]; omega
  have h := lp_big (st := ⟨PW, w.params⟩) (n₀ := 11) (ann := some (.ref 6)) (l := ((dE.drop (17 * j)).take 17).map mkP) (ks := ((dE.drop (17 * j)).take 17).map tabOf) (by rw [List.length_map, chunk_len j h2]) (by rw [List.length_map, chunk_len j h2])
    (s := SD w os j) (c := c) (d := 33) (by show Nat.ble 11 (HD w.params j).objs.size = true; rw [hsz]; exact Nat.ble_eq_true_of_le (by omega)) rfl (by show 33 ≠ (HD w.params j).objs.size; rw [hsz]; omega) (by show ((HD w.params j).objs.size == sysModules) = false; rw [hsz]; exact big_ne j)
    (zip_ok _ hmem) (nd_sub _ _) (HD_main w.params j) (by
      cases hh : esA.take (17 * j) with
      | nil => rw [hh] at hlen; simp at hlen; omega
      | cons a b => rfl) (by rw [List.size_toArray, hlen]; omega)
    (fun e he kx hk => by
      obtain ⟨x, hx, rfl⟩ := List.mem_map.mp hk
      exact apart _ e he x (List.mem_of_mem_take hx))
  rw [List.map_map] at h
  refine Eq.trans h ?_
  have e := HD_next w.params j h1 h2
  rw [chE_eq] at e
  show some ((_, (⟨put 33 _ (put (HD w.params j).objs.size _ ((HD w.params j).push _)), #[], drawn0, 256 + 51 * j + 51, os⟩ : Shared), _, _) : DSt × Shared × Pos × Nat) = _
  rw [show (SD w os j).toks = 256 + 51 * j from rfl, e]
  rfl
end Wr50
end
section
set_option maxRecDepth 100000
set_option maxHeartbeats 4000000
namespace Wr50
open PySem PySem.W PySem.Calls PyProof.Rows
theorem chunks_go (w : World) (os : OsState) : ∀ (m j c : Nat), 1 ≤ j → j + m ≤ 38 →
    lpS ⟨PW, w.params⟩ 11 (some (.ref 6)) ddf (((dE.drop (17 * j)).take (17 * m)).map itm) (some 33, []) (SD w os j) dPos c = some ((some 33, []), SD w os (j + m), dPos, c + 330 * m)
  | 0, j, c, _, _ => by simp [lpS]
  | m + 1, j, c, h1, h2 => by
    rw [show 17 * (m + 1) = 17 + 17 * m by omega, List.take_add, List.map_append, lpS_app, chunk_go w os j h1 (by omega) c]
    show lpS _ _ _ _ _ (some 33, []) (SD w os (j + 1)) dPos (c + 330) = _
    rw [List.drop_drop, show 17 * j + 17 = 17 * (j + 1) by omega, chunks_go w os m (j + 1) (c + 330) (by omega) (by omega)]
    rw [show j + 1 + m = j + (m + 1) by omega, show c + 330 + 330 * m = c + 330 * (m + 1) by omega]
section
variable {st : Setting} {n₀ : Nat} {ann : Option Value}
theorem step17n (k v : Sem Value) (sub : Addr) (run : List (Sem Value × Sem Value)) (h : ((run ++ [(k, v)]).length == 17) = true) {s s1 : Shared} {p p1 : Pos} {n n1 : Nat}
    (h1 : evS st n₀ ann (subDict (run ++ [(k, v)])) s p n = some (sub, s1, p1, n1)) :
    evS st n₀ ann (ddf (some k, v) (none, run)) s p n = some (.yield (some sub, []), s1, p1, n1) := by
  have hne : (run ++ [(k, v)]).isEmpty = false := by simp
  unfold ddf ddfg
  dsimp only
  rw [h, hne]
  simp only [if_true, Bool.false_eq_true, if_false]
  refine (ev_bind (r := (some sub, s1, p1, n1)) ?_).trans rfl
  exact (ev_bind h1).trans rfl
theorem lp_chunk0 (c : List (Sem Value × Sem Value)) (kv : Sem Value × Sem Value) (hc : c.length = 16) (sub : Addr) {s s1 : Shared} {p p1 : Pos} {n n1 : Nat}
    (h1 : evS st n₀ ann (subDict (c ++ [kv])) s p n = some (sub, s1, p1, n1)) :
    lpS st n₀ ann ddf ((c ++ [kv]).map fun kv => (some kv.1, kv.2)) (none, []) s p n = some ((some sub, []), s1, p1, n1) := by
  rw [List.map_append, lpS_app, lp_run c [] none s p n (by simp [hc])]
  show lpS st n₀ ann ddf [(some kv.1, kv.2)] (none, [] ++ c) s p n = _
  rw [lpS, step17n kv.1 kv.2 sub ([] ++ c) (by simp [hc]) (by simpa using h1)]
  rfl
end
theorem hp3_size (P : Params) : (hp3 P).objs.size = 33 := by kernel_rfl!
theorem HD_one (P : Params) : (hp3 P).push (dObj (chE 0).toArray 17) = HD P 1 := by
  unfold HD
  have e : hp3 P = ⟨(base33 P).toArray, life0⟩ := rfl
  rw [e]
  unfold Heap.push
  simp [chE]
theorem chunk_0 (w : World) (os : OsState) (c : Nat) : lpS ⟨PW, w.params⟩ 11 (some (.ref 6)) ddf ((dE.take 17).map itm) (none, []) (sh3 w os) dPos c = some ((some 33, []), SD w os 1, dPos, c + 223) := by
  have hlen : (dE.take 17).length = 17 := by rw [List.length_take, dE_len]; rfl
  have hmem : ∀ e ∈ dE.take 17, e ∈ dE := fun e he => List.mem_of_mem_take he
  have hs : (sh3 w os).heap.objs.size = 33 := hp3_size w.params
  have hg : ((sh3 w os).heap.push (dObj #[] 0)).get? (sh3 w os).heap.objs.size = some (dObj #[] 0) := by
    cases (sh3 w os).heap; simp [Heap.push, Heap.get?]
  have hsub := ev_sub (st := ⟨PW, w.params⟩) (n₀ := 11) (ann := some (.ref 6)) (l := (dE.take 17).map mkP) (ks := (dE.take 17).map tabOf) (s := sh3 w os) (p := dPos) (c := c) (by rw [List.length_map, hlen]; omega) (by rw [hs]; rfl) (by simp) (zip_ok _ hmem)
    (by have := nd_sub 0 17; simpa using this) (by rw [List.length_map, hlen]; omega) hg
  rw [put_new, List.length_map, hlen, hs] at hsub
  have e0 := chE_eq 0
  rw [show 17 * 0 = 0 from rfl, List.drop_zero, show 256 + 51 * 0 = 256 from rfl] at e0
  have el : (entsK ((dE.take 17).map tabOf) 256).length = 17 := by rw [entsK_len, List.length_map, hlen]
  rw [show (sh3 w os).toks = 256 from rfl, el, ← e0] at hsub
  have hH : (sh3 w os).heap.push (dObj (chE 0).toArray 17) = HD w.params 1 := HD_one w.params
  rw [hH] at hsub
  have hl17 : ((dE.take 17).map mkP).length = 17 := by rw [List.length_map, hlen]
  have em : (dE.take 17).map itm = ((dE.take 17).map mkP).map fun kv => (some kv.1, kv.2) := by rw [List.map_map]; rfl
  rw [em]
  generalize (dE.take 17).map mkP = l at hsub hl17
  obtain ⟨c16, kv, rfl⟩ : ∃ c16 kv, l = c16 ++ [kv] := ⟨l.dropLast, l.getLast (by intro e; rw [e] at hl17; simp at hl17), (List.dropLast_concat_getLast _).symm⟩
  have := lp_chunk0 c16 kv (by simpa using hl17) _ hsub
  rw [this]
  rfl
end Wr50
end
section
set_option maxRecDepth 100000
set_option maxHeartbeats 4000000
namespace Wr50
open PySem PySem.W PySem.Calls PyProof.Rows
theorem lp_all (w : World) (os : OsState) (c : Nat) : lpS ⟨PW, w.params⟩ 11 (some (.ref 6)) ddf its (none, []) (sh3 w os) dPos c = some ((some 33, (dE.drop 646).map mkP), SD w os 38, dPos, c + 12433) := by
  have e : dE = dE.take 17 ++ ((dE.drop 17).take 629 ++ dE.drop 646) := by
    have h1 := List.take_append_drop 17 dE
    have h2 := List.take_append_drop 629 (dE.drop 17)
    rw [List.drop_drop] at h2
    exact (h1.symm.trans (by rw [h2.symm.symm]))
  have h1 := chunk_0 w os c
  have h2 := chunks_go w os 37 1 (c + 223) (Nat.le_refl _) (by omega)
  have h4 : ((dE.drop 646).map mkP).length = 4 := by rw [List.length_map, List.length_drop, dE_len]
  have h3 := lp_run (st := ⟨PW, w.params⟩) (n₀ := 11) (ann := some (.ref 6)) ((dE.drop 646).map mkP) [] (some 33) (SD w os 38) dPos (c + 223 + 330 * 37) (by rw [h4]; decide)
  have em : ((dE.drop 646).map mkP).map (fun kv => (some kv.1, kv.2)) = (dE.drop 646).map itm := by rw [List.map_map]; rfl
  rw [em] at h3
  rw [its_itm]
  have e2 : dE.map itm = (dE.take 17).map itm ++ (((dE.drop (17 * 1)).take (17 * 37)).map itm ++ (dE.drop 646).map itm) := by
    rw [← List.map_append, ← List.map_append]; exact congrArg _ e
  rw [e2, lpS_app, h1]
  rw [Option.bind_some]
  dsimp only
  rw [lpS_app, h2, Option.bind_some]
  dsimp only
  rw [show (1 + 37 : Nat) = 38 from rfl, h3, List.nil_append, show c + 223 + 330 * 37 = c + 12433 by omega]
end Wr50
end
section
set_option maxRecDepth 100000
set_option maxHeartbeats 4000000
namespace Wr50
open PySem PySem.W PySem.Calls PyProof.Rows
/-- entries whose tokens lie two by two -/
noncomputable def entsP : List (Nat × PySem.Str) → Nat → List DictEntry
  | [], _ => []
  | (k, x) :: r, t => entK k x t :: entsP r (t + 2)
noncomputable abbrev run4 : List (Sem Value × Sem Value) := (dE.drop 646).map mkP
noncomputable abbrev ents4 : List DictEntry := entsP ((dE.drop 646).map tabOf) 2194
noncomputable abbrev Sub4 (w : World) : Prop := (fun os : OsState => evS ⟨PW, w.params⟩ 11 (some (.ref 6)) (subDict run4) (SD w os 38) dPos 12435) = fun os => some (71, { SD w os 38 with heap := (HD w.params 38).push (dObj ents4.toArray 4), toks := 2206 }, dPos, 12488)
theorem sub4 : ∀ w : World, Sub4 w := byRow2 "special-get-raises" (P := Sub4) (fun w => by unfold Sub4; kernel_rfl!) (fun w => by unfold Sub4; kernel_rfl!)
end Wr50
end
section
set_option maxRecDepth 100000
set_option maxHeartbeats 400000
namespace Wr50
open PySem PySem.W PySem.Calls PyProof.Rows
section
variable {st : Setting} {n₀ : Nat} {ann : Option Value}
theorem end_few {d sub : Addr} {run : List (Sem Value × Sem Value)} (hne : run.isEmpty = false) {s s1 s2 : Shared} {p p1 p2 : Pos} {n n1 n2 : Nat}
    (h1 : evS st n₀ ann (subDict run) s p n = some (sub, s1, p1, n1)) (h2 : evS st n₀ ann (mergeMapping d (.ref sub) false) s1 p1 n1 = some ((), s2, p2, n2)) :
    evS st n₀ ann (ddg (some d, run)) s p n = some (.ref d, s2, p2, n2) := by
  unfold ddg ddfg
  dsimp only
  rw [hne]
  simp only [Bool.false_eq_true, if_false]
  refine (ev_bind (r := (some d, s2, p2, n2)) ?_).trans rfl
  refine (ev_bind (ev_keep h1)).trans ?_
  exact (ev_bind (ev_onRaise (ev_keep h2))).trans rfl
theorem ev_display {items : List DIt} {s s1 : Shared} {p p1 : Pos} {n n1 : Nat} {z : DSt} {r : Value × Shared × Pos × Nat} (h : lpS st n₀ ann ddf items (none, []) s p n = some (z, s1, p1, n1)) (hg : evS st n₀ ann (ddg z) s1 p1 n1 = some r) :
    evS st n₀ ann (dictDisplay items) s p n = some r := by
  rw [dd_eq, Sem.bind_eq_wrap]
  rw [evS_wrap _ _ _ _ _ _ _ _ _ _ _ _ (lpS_for _ _ _ _ _ _ _ _ _ _ h)]
  exact hg
end
end Wr50
end
section
set_option maxRecDepth 100000
set_option maxHeartbeats 400000
namespace Wr50
open PySem PySem.W PySem.Calls PyProof.Rows
theorem entsP_hash : ∀ (l : List (Nat × PySem.Str)) (t : Nat), (entsP l t).map (·.hash) = l.map fun kx => (kx.1 : Int)
  | [], _ => rfl
  | (k, x) :: r, t => by rw [entsP, List.map_cons, List.map_cons, entsP_hash r (t + 2)]
theorem entsP_len : ∀ (l : List (Nat × PySem.Str)) (t : Nat), (entsP l t).length = l.length
  | [], _ => rfl
  | (k, x) :: r, t => by rw [entsP, List.length_cons, entsP_len r, List.length_cons]
theorem entsP_plain : ∀ (ks : List (Nat × PySem.Str)) (t : Nat), ∀ e ∈ entsP ks t, plainE e
  | [], _, e, h => nomatch h
  | (k, x) :: r, t, e, h => by
    rw [entsP] at h
    rcases List.mem_cons.mp h with rfl | h
    · exact ⟨_, _, _, _, rfl, rfl⟩
    · exact entsP_plain r _ e h
theorem len4 : ents4.length = 4 := by rw [entsP_len, List.length_map, List.length_drop, dE_len]
noncomputable def HF (P : Params) : Heap := put 33 ents4 ((HD P 38).push (dObj ents4.toArray 4))
theorem disp (w : World) (os : OsState) : evS ⟨PW, w.params⟩ 11 (some (.ref 6)) (dictDisplay its) (sh3 w os) dPos 2 = some (.ref 33, { SD w os 38 with heap := HF w.params, toks := 2206 }, dPos, 12517) := by
  have h1 := lp_all w os 2
  have h2 := congrFun (sub4 w) os
  have hsz := HD_size w.params 38 (by omega)
  have hg : ((HD w.params 38).push (dObj ents4.toArray 4)).get? 71 = some (dObj ents4.toArray 4) := by
    have e : ∀ (H : Heap) (es : Array DictEntry) (n : Nat), (H.push (dObj es n)).get? H.objs.size = some (dObj es n) := by intro H es n; cases H; simp [Heap.push, Heap.get?]
    have := e (HD w.params 38) ents4.toArray 4
    rwa [hsz] at this
  have hd : ((HD w.params 38).push (dObj ents4.toArray 4)).get? 33 = some (dObj (esA.take (17 * 38)).toArray (17 * 38)) := Heap.get?_push_of_some _ (HD_main w.params 38)
  have hlen : (esA.take (17 * 38)).length = 17 * 38 := by rw [List.length_take, esA_len]; rfl
  have hm := ev_merge (st := ⟨PW, w.params⟩) (n₀ := 11) (ann := some (.ref 6)) (d := 33) (a := 71) (by decide) rfl (subs := ents4.toArray) (es := (esA.take (17 * 38)).toArray) (m := 4) (n := 17 * 38) rfl (p := dPos) (c := 12488)
    (s := { SD w os 38 with heap := (HD w.params 38).push (dObj ents4.toArray 4), toks := 2206 })
    (ev_isdict hg) (ev_iter hg) (fun e he => entsP_plain _ _ e (by simpa using he)) (by
      simp only [entsP_hash]
      have h := nd_sub 646 4
      rw [List.take_of_length_le (by rw [List.length_drop, dE_len]; decide)] at h
      exact nodup_cast h)
    (fun e he x hx => by
      simp only at hx he
      have hm : x.hash ∈ ents4.map (·.hash) := List.mem_map_of_mem hx
      rw [entsP_hash] at hm
      obtain ⟨kx, hk, e2⟩ := List.mem_map.mp hm
      obtain ⟨y, hy, rfl⟩ := List.mem_map.mp hk
      rw [← e2]; exact apart 646 e he y hy) (by rw [List.size_toArray, List.size_toArray, hlen, len4]; decide) (by
      cases hh : esA.take (17 * 38) with
      | nil => rw [hh] at hlen; simp at hlen
      | cons a b => rfl) hd hg
  have hne : run4.isEmpty = false := by
    have h4 : run4.length = 4 := by rw [List.length_map, List.length_drop, dE_len]
    cases hh : run4 with
    | nil => rw [hh] at h4; simp at h4
    | cons a b => rfl
  have he := end_few hne h2 hm
  have hr := ev_display h1 he
  rw [hr, List.size_toArray, len4]
  rfl
end Wr50
end
section
set_option maxRecDepth 100000
set_option maxHeartbeats 400000
namespace Wr50
open PySem PySem.W PySem.Calls PyProof.Rows
noncomputable def asgName : Stmt → PySem.Str
  | .Assign [.Name x _] _ _ => x
  | _ => Str.empty
noncomputable def asgPos : Stmt → Pos
  | .Assign [.Name _ p] _ _ => p
  | _ => ⟨0, 0, 0, 0⟩
noncomputable def asgAt : Stmt → Pos
  | .Assign _ _ p => p
  | _ => ⟨0, 0, 0, 0⟩
noncomputable abbrev dictX : Expr := .Dict dKeys dVals dPos
theorem st3_eq : stAt 3 = .Assign [.Name (asgName (stAt 3)) (asgPos (stAt 3))] dictX (asgAt (stAt 3)) := by kernel_rfl!
theorem sw3 : swapsWith dictX (some (.Name (asgName (stAt 3)) (asgPos (stAt 3)))) (asgAt (stAt 3)).line envT = pure false := by kernel_rfl!
theorem eval3 : eval dictX envT = (do standAt dPos; dictDisplay its) := rfl
theorem bind3 (w : World) (os : OsState) : evS ⟨PW, w.params⟩ 11 (some (.ref 6)) (bindName envT (asgName (stAt 3)) (.ref 33)) { SD w os 38 with heap := HF w.params, toks := 2206 } (asgPos (stAt 3)) 12518 = some ((), sh4 w os, ⟨5,0,5,13⟩, 12524) := by kernel_rfl!
end Wr50
end
section
set_option maxRecDepth 100000
set_option maxHeartbeats 400000
namespace Wr50
open PySem PySem.W PySem.Calls PyProof.Rows
theorem ex3 (w : World) (os : OsState) : evS ⟨PW, w.params⟩ 11 (some (.ref 6)) (exec (stAt 3) envT) (sh3 w os) ⟨3,0,4,30⟩ 0 = some (.next, sh4 w os, ⟨5,0,5,13⟩, 12524) := by
  rw [st3_eq, exec_Assign_Name (hs := sw3), eval3]
  refine (ev_bind (r := ((), sh3 w os, asgAt (stAt 3), 1)) rfl).trans ?_
  dsimp only
  refine (ev_bind (r := (.ref 33, { SD w os 38 with heap := HF w.params, toks := 2206 }, dPos, 12517)) ?_).trans ?_
  · refine (ev_bind (r := ((), sh3 w os, dPos, 2)) rfl).trans ?_
    exact disp w os
  dsimp only
  refine (ev_bind (r := ((), { SD w os 38 with heap := HF w.params, toks := 2206 }, asgPos (stAt 3), 12518)) rfl).trans ?_
  dsimp only
  refine (ev_bind (bind3 w os)).trans rfl
theorem pz3 (w : World) (os : OsState) : segRun treeTable PW w 11 (some (.ref 6)) 1 12525 (sh3 w os) (pieceOf (stAt 3) envT codeT ⟨3,0,4,30⟩ [topFrame posT]) = some (.next, sh4 w os, codeT, ⟨5,0,5,13⟩) := by
  obtain ⟨d, e1, e2⟩ := evS_seg (pr := PW) (w := w) (n₀ := 11) (ann := some (.ref 6)) (b := behindTheImports PW) (env := envT) (q := posT) doneF deadEnd id id _ _ _ _ _ (ex3 w os)
  have ed : d = 12524 := by
    have : 12524 = 0 + d := e1
    omega
  subst ed
  exact seg_go (N := 1) e2 rfl
end Wr50
end
section
set_option maxRecDepth 100000
set_option maxHeartbeats 4000000
namespace Wr50
open PySem PySem.W PySem.Calls PyProof.Rows
theorem pz0 (w : World) (os : OsState) : segRun treeTable PW w 11 (some (.ref 6)) 1 10 (sh0 w os) (pieceOf (stAt 0) envT codeT ⟨0,0,0,0⟩ [topFrame posT]) = some (.next, sh1 w os, codeT, ⟨1,0,1,8⟩) := by kernel_rfl
theorem pz2 (w : World) (os : OsState) : segRun treeTable PW w 11 (some (.ref 6)) 1 30 (sh2 w os) (pieceOf (stAt 2) envT codeT ⟨2,0,2,6⟩ [topFrame posT]) = some (.next, sh3 w os, codeT, ⟨3,0,4,30⟩) := by kernel_rfl
theorem pz4 (w : World) (os : OsState) : segRun treeTable PW w 11 (some (.ref 6)) 1 31 (sh4 w os) (pieceOf (stAt 4) envT codeT ⟨5,0,5,13⟩ [topFrame posT]) = some (.next, sh5 w os, codeT, ⟨6,0,10,23⟩) := by kernel_rfl
theorem pz5 (w : World) (os : OsState) : segRun treeTable PW w 11 (some (.ref 6)) 1 10 (sh5 w os) (pieceOf (stAt 5) envT codeT ⟨6,0,10,23⟩ [topFrame posT]) = some (.next, sh6 w os, codeT, ⟨11,0,11,8⟩) := by kernel_rfl
theorem pz6 (w : World) (os : OsState) : segRun treeTable PW w 11 (some (.ref 6)) 1 10 (sh6 w os) (pieceOf (stAt 6) envT codeT ⟨11,0,11,8⟩ [topFrame posT]) = some (.next, sh7 w os, codeT, ⟨12,0,12,15⟩) := by kernel_rfl
theorem pz7 (w : World) (os : OsState) : segRun treeTable PW w 11 (some (.ref 6)) 1 35 (sh7 w os) (pieceOf (stAt 7) envT codeT ⟨12,0,12,15⟩ [topFrame posT]) = some (.next, sh8 w os, codeT, ⟨13,0,40,15⟩) := by kernel_rfl
theorem pz8 (w : World) (os : OsState) : segRun treeTable PW w 11 (some (.ref 6)) 1 10 (sh8 w os) (pieceOf (stAt 8) envT codeT ⟨13,0,40,15⟩ [topFrame posT]) = some (.next, sh9 w os, codeT, ⟨41,0,41,8⟩) := by kernel_rfl
theorem pz12 (w : World) (os : OsState) : segRun treeTable PW w 11 (some (.ref 6)) 1 36 (sh12 w os) (pieceOf (stAt 12) envT codeT ⟨46,0,47,8⟩ [topFrame posT]) = some (.next, sh13 w os, codeT, ⟨48,0,64,23⟩) := by kernel_rfl
theorem pz13 (w : World) (os : OsState) : segRun treeTable PW w 11 (some (.ref 6)) 1 34 (sh13 w os) (pieceOf (stAt 13) envT codeT ⟨48,0,64,23⟩ [topFrame posT]) = some (.next, sh14 w os, codeT, ⟨65,0,81,18⟩) := by kernel_rfl
theorem pz14 (w : World) (os : OsState) : segRun treeTable PW w 11 (some (.ref 6)) 1 10 (sh14 w os) (pieceOf (stAt 14) envT codeT ⟨65,0,81,18⟩ [topFrame posT]) = some (.next, sh15 w os, codeT, ⟨82,0,82,8⟩) := by kernel_rfl
theorem pz15 (w : World) (os : OsState) : segRun treeTable PW w 11 (some (.ref 6)) 1 31 (sh15 w os) (pieceOf (stAt 15) envT codeT ⟨82,0,82,8⟩ [topFrame posT]) = some (.next, sh16 w os, codeT, ⟨83,0,84,16⟩) := by kernel_rfl
theorem pz16 (w : World) (os : OsState) : segRun treeTable PW w 11 (some (.ref 6)) 1 31 (sh16 w os) (pieceOf (stAt 16) envT codeT ⟨83,0,84,16⟩ [topFrame posT]) = some (.next, sh17 w os, codeT, ⟨85,0,86,17⟩) := by kernel_rfl
theorem pz17 (w : World) (os : OsState) : segRun treeTable PW w 11 (some (.ref 6)) 1 31 (sh17 w os) (pieceOf (stAt 17) envT codeT ⟨85,0,86,17⟩ [topFrame posT]) = some (.next, sh18 w os, codeT, ⟨87,0,88,12⟩) := by kernel_rfl
theorem pz18 (w : World) (os : OsState) : segRun treeTable PW w 11 (some (.ref 6)) 1 31 (sh18 w os) (pieceOf (stAt 18) envT codeT ⟨87,0,88,12⟩ [topFrame posT]) = some (.next, sh19 w os, codeT, ⟨89,0,90,15⟩) := by kernel_rfl
theorem pz19 (w : World) (os : OsState) : segRun treeTable PW w 11 (some (.ref 6)) 1 33 (sh19 w os) (pieceOf (stAt 19) envT codeT ⟨89,0,90,15⟩ [topFrame posT]) = some (.next, sh20 w os, codeT, ⟨91,0,96,64⟩) := by kernel_rfl
theorem pz20 (w : World) (os : OsState) : segRun treeTable PW w 11 (some (.ref 6)) 1 32 (sh20 w os) (pieceOf (stAt 20) envT codeT ⟨91,0,96,64⟩ [topFrame posT]) = some (.next, sh21 w os, codeT, ⟨97,0,98,12⟩) := by kernel_rfl
theorem pz21 (w : World) (os : OsState) : segRun treeTable PW w 11 (some (.ref 6)) 1 10 (sh21 w os) (pieceOf (stAt 21) envT codeT ⟨97,0,98,12⟩ [topFrame posT]) = some (.next, sh22 w os, codeT, ⟨99,0,99,8⟩) := by kernel_rfl
theorem pz22 (w : World) (os : OsState) : segRun treeTable PW w 11 (some (.ref 6)) 1 33 (sh22 w os) (pieceOf (stAt 22) envT codeT ⟨99,0,99,8⟩ [topFrame posT]) = some (.next, sh23 w os, codeT, ⟨100,0,107,16⟩) := by kernel_rfl
theorem pz23 (w : World) (os : OsState) : segRun treeTable PW w 11 (some (.ref 6)) 1 36 (sh23 w os) (pieceOf (stAt 23) envT codeT ⟨100,0,107,16⟩ [topFrame posT]) = some (.next, sh24 w os, codeT, ⟨108,0,124,116⟩) := by kernel_rfl
theorem pz24 (w : World) (os : OsState) : segRun treeTable PW w 11 (some (.ref 6)) 1 38 (sh24 w os) (pieceOf (stAt 24) envT codeT ⟨108,0,124,116⟩ [topFrame posT]) = some (.next, sh25 w os, codeT, ⟨125,0,144,15⟩) := by kernel_rfl
theorem pz25 (w : World) (os : OsState) : segRun treeTable PW w 11 (some (.ref 6)) 1 27 (sh25 w os) (pieceOf (stAt 25) envT codeT ⟨125,0,144,15⟩ [topFrame posT]) = some (.next, sh26 w os, codeT, ⟨145,0,153,16⟩) := by kernel_rfl
theorem pz26 (w : World) (os : OsState) : segRun treeTable PW w 11 (some (.ref 6)) 1 27 (sh26 w os) (pieceOf (stAt 26) envT codeT ⟨145,0,153,16⟩ [topFrame posT]) = some (.next, sh27 w os, codeT, ⟨154,0,189,53⟩) := by kernel_rfl
end Wr50
end
section
set_option maxRecDepth 100000
set_option maxHeartbeats 4000000
namespace Wr50
open PySem PySem.W PySem.Calls PyProof.Rows
theorem pz9 (w : World) (os : OsState) : segRun treeTable PW w 11 (some (.ref 6)) 1 197 (sh9 w os) (pieceOf (stAt 9) envT codeT ⟨41,0,41,8⟩ [topFrame posT]) = some (.next, sh10 w os, codeT, ⟨42,0,43,8⟩) := by kernel_rfl
theorem pz10 (w : World) (os : OsState) : segRun treeTable PW w 11 (some (.ref 6)) 1 214 (sh10 w os) (pieceOf (stAt 10) envT codeT ⟨42,0,43,8⟩ [topFrame posT]) = some (.next, sh11 w os, codeT, ⟨44,0,45,8⟩) := by kernel_rfl
theorem pz11 (w : World) (os : OsState) : segRun treeTable PW w 11 (some (.ref 6)) 1 214 (sh11 w os) (pieceOf (stAt 11) envT codeT ⟨44,0,45,8⟩ [topFrame posT]) = some (.next, sh12 w os, codeT, ⟨46,0,47,8⟩) := by kernel_rfl
end Wr50
end
section
set_option maxRecDepth 100000
set_option maxHeartbeats 4000000
namespace Wr50
open PySem PySem.W PySem.Calls PyProof.Rows
noncomputable abbrev Pz1 (w : World) : Prop := (fun os => segRun treeTable PW w 11 (some (.ref 6)) 1 999 (sh1 w os) (pieceOf (stAt 1) envT codeT ⟨1,0,1,8⟩ [topFrame posT])) = fun os => some (.next, sh2 w os, codeT, ⟨2,0,2,6⟩)
theorem pz1' : ∀ w : World, Pz1 w := byRow2 "set-order" (P := Pz1)
  (byRow2 "special-get-raises" (P := fun w => Pz1 (w.withFollow "set-order" false)) (fun w => by unfold Pz1; rw [Fast.te14374325043358763698, Fast.te14364793385576792824]; kernel_rfl!) (fun w => by unfold Pz1; rw [Fast.te14374325043358763698, Fast.te14364793385576792824]; kernel_rfl!))
  (byRow2 "special-get-raises" (P := fun w => Pz1 (w.withFollow "set-order" true)) (fun w => by unfold Pz1; rw [Fast.te14374325043358763698, Fast.te14364793385576792824]; kernel_rfl!) (fun w => by unfold Pz1; rw [Fast.te14374325043358763698, Fast.te14364793385576792824]; kernel_rfl!))
theorem pz1 (w : World) (os : OsState) : segRun treeTable PW w 11 (some (.ref 6)) 1 999 (sh1 w os) (pieceOf (stAt 1) envT codeT ⟨1,0,1,8⟩ [topFrame posT]) = some (.next, sh2 w os, codeT, ⟨2,0,2,6⟩) := congrFun (pz1' w) os
end Wr50
end
section
set_option maxRecDepth 100000
set_option maxHeartbeats 400000
namespace Wr50
open PySem PySem.W PySem.Calls PyProof.Rows
theorem body27 : behindTheImports PW = [stAt 0, stAt 1, stAt 2, stAt 3, stAt 4, stAt 5, stAt 6, stAt 7, stAt 8, stAt 9, stAt 10, stAt 11, stAt 12, stAt 13, stAt 14, stAt 15, stAt 16, stAt 17, stAt 18, stAt 19, stAt 20, stAt 21, stAt 22, stAt 23, stAt 24, stAt 25, stAt 26] := by kernel_rfl!
noncomputable def s00 (w : World) (os : OsState) : Shared := ⟨boot_heap w.params, #[], boot_drawn, boot_toks, os⟩
theorem hpre (w : World) (os : OsState) : topGo treeTable PW w 11 (some (.ref 6)) 12 (s00 w os) (topStub PW) = some (sh0 w os, ⟨denote treeTable codeT, codeT, ⟨0,0,0,0⟩, [topFrame posT]⟩) := by kernel_rfl!
theorem hblock (w : World) (os : OsState) : segRun treeTable PW w 11 (some (.ref 6)) 1 1 (sh0 w os) (blockOf (behindTheImports PW) envT codeT ⟨0,0,0,0⟩ [topFrame posT]) = some (.next, sh0 w os, codeT, ⟨0,0,0,0⟩) := by kernel_rfl!
theorem hfin (w : World) (os : OsState) : topRun treeTable PW w 11 (some (.ref 6)) 2 (sh27 w os) ⟨doneF .next, codeT, ⟨154,0,189,53⟩, [topFrame posT]⟩ = some (sh27 w os) := by kernel_rfl!
end Wr50
end
section
set_option maxRecDepth 100000
set_option maxHeartbeats 400000
namespace Wr50
open PySem PySem.W PySem.Calls PyProof.Rows
theorem chain27 (w : World) (os : OsState) : topRun treeTable PW w 11 (some (.ref 6)) (10 + (999 + (30 + (12525 + (31 + (10 + (10 + (35 + (10 + (197 + (214 + (214 + (36 + (34 + (10 + (31 + (31 + (31 + (31 + (33 + (32 + (10 + (33 + (36 + (38 + (27 + (27 + 2))))))))))))))))))))))))))) (sh0 w os) (restOf (behindTheImports PW) envT codeT ⟨0,0,0,0⟩ [topFrame posT]) = some (sh27 w os) := by
  rw [body27]
  exact (piece_cons (pz0 w os) (piece_cons (pz1 w os) (piece_cons (pz2 w os) (piece_cons (pz3 w os) (piece_cons (pz4 w os) (piece_cons (pz5 w os) (piece_cons (pz6 w os) (piece_cons (pz7 w os) (piece_cons (pz8 w os) (piece_cons (pz9 w os) (piece_cons (pz10 w os) (piece_cons (pz11 w os) (piece_cons (pz12 w os) (piece_cons (pz13 w os) (piece_cons (pz14 w os) (piece_cons (pz15 w os) (piece_cons (pz16 w os) (piece_cons (pz17 w os) (piece_cons (pz18 w os) (piece_cons (pz19 w os) (piece_cons (pz20 w os) (piece_cons (pz21 w os) (piece_cons (pz22 w os) (piece_cons (pz23 w os) (piece_cons (pz24 w os) (piece_cons (pz25 w os) (piece_cons (pz26 w os) (piece_nil (hfin w os)))))))))))))))))))))))))))))
theorem run27 (w : World) (os : OsState) : topRun treeTable PW w 11 (some (.ref 6)) (12 + (1 + (10 + (999 + (30 + (12525 + (31 + (10 + (10 + (35 + (10 + (197 + (214 + (214 + (36 + (34 + (10 + (31 + (31 + (31 + (31 + (33 + (32 + (10 + (33 + (36 + (38 + (27 + (27 + 2))))))))))))))))))))))))))))) (s00 w os) (topStub PW) = some (sh27 w os) :=
  go_top (hpre w os) (piece_block (hblock w os) (chain27 w os))
-- total 14740
end Wr50
end
section
set_option maxRecDepth 100000
set_option maxHeartbeats 4000000
namespace Wr50
open PySem PySem.W PySem.Calls PyProof.Rows
theorem hopen (N : Nat) (hN : Nat.ble 600 N = true) : ∀ w : World, (fencedOpening treeTable PW w N).map (fun s => (s.heap, s.gens, s.drawn, s.toks)) = some (boot_heap w.params, Array.mk [], boot_drawn, boot_toks) :=
  boot_open (p := PW) (by kernel_rfl!) hN (fun s => by rfl)
theorem hsize : ∀ w : World, ((boot_heap w.params).isNs mainGlobals && (#[] : Array GenState).size == 0, (boot_heap w.params).objs.size, (boot_heap w.params).nsMap mainGlobals "__annotations__") = (true, 11, some (.ref 6)) := fun w => by kernel_rfl!
end Wr50
end
section
set_option maxRecDepth 100000
set_option maxHeartbeats 4000000
namespace Wr50
open PySem PySem.W PySem.Calls PyProof.Rows
theorem lk1 (w : World) : staticsOk (importedModules PW.main.body) (boot_heap w.params) (hp27 w.params) = true := by kernel_rfl!
theorem lk2 (w : World) : namesBound PW (hp27 w.params) = true := by kernel_rfl!
theorem lk3 (w : World) (os : OsState) : gensDone (sh27 w os) = true := by kernel_rfl!
theorem lk4 (w : World) : laidKept (boot_heap w.params) (hp27 w.params) = true := by kernel_rfl!
end Wr50
end
section
set_option maxRecDepth 100000
set_option maxHeartbeats 8000000
namespace Wr50
open PySem PySem.W PySem.Calls PyProof.Rows
theorem lk9a (w : World) (os : OsState) : seen ((recsOf qv).map (·.name)) (ownsOf qv) [] { (sh27 w os) with gens := #[] } = expectedOf qv := by kernel_rfl!
theorem lk9b (w : World) (os : OsState) : (sh27 w os).heap.bltView = bltViewBooted := by kernel_rfl!
theorem lk9d (w : World) (os : OsState) : (tabsOk qv (sh27 w os), pinSeenD qv (drecsOf qv) (sh27 w os)) = (true, pinGoodD (drecsOf qv)) := by kernel_rfl!
theorem lk9e (w : World) (os : OsState) : plainSeenE qv (looseW qv lo) (sh27 w os) = plainGoodE qv (looseW qv lo) := by kernel_rfl!
theorem lk9f (w : World) (os : OsState) : plainSeenD qv lo (sh27 w os) = plainGoodD qv lo := by kernel_rfl!
theorem lk9g (w : World) (os : OsState) : wideSeen qv (sh27 w os) = wideGood qv := by kernel_rfl!
theorem lk9h (w : World) (os : OsState) : clsSeenW qv lo (sh27 w os) = clsGoodW qv lo := by kernel_rfl!
theorem lk9c1 (w : World) (os : OsState) : (sh27 w os).heap.keysOk (looseW qv lo) ((recsOf qv).map (·.name)) ((litsOf qv).map (·.1)) ((clssOf qv (looseW qv lo)).map (·.name)) = true := by kernel_rfl!
theorem lk9c2 (w : World) (os : OsState) : (sh27 w os).heap.accountedOkI (importedModules PW.main.body) = true := by kernel_rfl!
theorem lk9c3 (w : World) (os : OsState) : ((sh27 w os).heap.isNs mainGlobals && (sh27 w os).heap.isNs builtinsNs) = true := by kernel_rfl!
/-! the table's keys rise, so they differ -/
noncomputable def ascI : List (PyData × PyData) → Bool
  | [] => true
  | (.int _, _) :: [] => true
  | (.int j, a) :: (.int k, b) :: D => decide (j < k) && ascI ((.int k, b) :: D)
  | _ => false
theorem asc_has : ∀ (D : List (PyData × PyData)) (j k : Int) (a : PyData), ascI ((.int k, a) :: D) = true → j < k → hasIntKey j ((.int k, a) :: D) = false
  | [], j, k, a, _, h => by simp [hasIntKey]; omega
  | (.int l, b) :: D, j, k, a, e, h => by
    simp only [ascI, Bool.and_eq_true, decide_eq_true_eq] at e
    have := asc_has D j l b e.2 (by omega)
    show ((k == j) || hasIntKey j ((.int l, b) :: D)) = false
    rw [this]; simp; omega
  | (.str _, _) :: _, _, _, _, e, _ => by cases e
  | (.bool _, _) :: _, _, _, _, e, _ => by cases e
  | (.none, _) :: _, _, _, _, e, _ => by cases e
  | (.list _, _) :: _, _, _, _, e, _ => by cases e
  | (.tuple _, _) :: _, _, _, _, e, _ => by cases e
  | (.dict _, _) :: _, _, _, _, e, _ => by cases e
theorem asc_apart : ∀ D : List (PyData × PyData), ascI D = true → keysApartInt D = true
  | [], _ => rfl
  | (.int k, a) :: [], _ => rfl
  | (.int j, a) :: (.int k, b) :: D, e => by
    have e' := e
    simp only [ascI, Bool.and_eq_true, decide_eq_true_eq] at e'
    show (!hasIntKey j ((.int k, b) :: D) && keysApartInt ((.int k, b) :: D)) = true
    rw [asc_has D j k b e'.2 e'.1, asc_apart _ e'.2]; rfl
  | (.int j, a) :: (.str _, b) :: D, e => by cases e
  | (.int j, a) :: (.bool _, b) :: D, e => by cases e
  | (.int j, a) :: (.none, b) :: D, e => by cases e
  | (.int j, a) :: (.list _, b) :: D, e => by cases e
  | (.int j, a) :: (.tuple _, b) :: D, e => by cases e
  | (.int j, a) :: (.dict _, b) :: D, e => by cases e
  | (.str _, _) :: _, e => by cases e
  | (.bool _, _) :: _, e => by cases e
  | (.none, _) :: _, e => by cases e
  | (.list _, _) :: _, e => by cases e
  | (.tuple _, _) :: _, e => by cases e
  | (.dict _, _) :: _, e => by cases e
noncomputable def tabDat : List (PyData × PyData) := (tabIntOf qv (Str.ofString "b3_exceptions")).getD []
theorem asc_tab : ascI tabDat = true := by kernel_rfl!
theorem apart_tab : keysApartInt tabDat = true := asc_apart _ asc_tab
theorem tb1 (w : World) (os : OsState) : (sh27 w os).heap.nsMap mainGlobals (Str.ofString "b3_exceptions") = some (.ref 33) := by kernel_rfl!
theorem tb2 (w : World) (os : OsState) : (sh27 w os).heap.get? 33 = some ⟨.type "dict", none, .dict b3es 650, #[]⟩ := by kernel_rfl!
theorem tb3 : entriesAreInt b3es.toList tabDat = true := by kernel_rfl!
theorem tb4 : tabIntOf qv (Str.ofString "b3_exceptions") = some tabDat := by kernel_rfl!
theorem tb5 (w : World) (os : OsState) : (sh27 w os).heap.tabIntOk (Str.ofString "b3_exceptions") tabDat = true := by
  unfold Heap.tabIntOk
  rw [tb1]
  dsimp only
  rw [tb2]
  dsimp only
  rw [tb3, apart_tab]
  rfl
theorem tb6 : valNames qv = [Str.ofString "b1_set", Str.ofString "b3_exceptions", Str.ofString "ELLIPSIS_MARKER"] := by kernel_rfl!
theorem lk9c4 (w : World) (os : OsState) : tablesOk qv (sh27 w os).heap = true := by
  unfold tablesOk
  rw [tb6]
  simp only [List.all_cons, List.all_nil, Bool.and_true]
  rw [tb4]
  dsimp only
  rw [tb5]
  rw [show tupIntsOf qv (Str.ofString "b1_set") = none by kernel_rfl!, show tupStrsOf qv (Str.ofString "b1_set") = none by kernel_rfl!, show tabIntOf qv (Str.ofString "b1_set") = none by kernel_rfl!,
    show tupIntsOf qv (Str.ofString "b3_exceptions") = none by kernel_rfl!, show tupStrsOf qv (Str.ofString "b3_exceptions") = none by kernel_rfl!,
    show tupIntsOf qv (Str.ofString "ELLIPSIS_MARKER") = none by kernel_rfl!, show tupStrsOf qv (Str.ofString "ELLIPSIS_MARKER") = none by kernel_rfl!, show tabIntOf qv (Str.ofString "ELLIPSIS_MARKER") = none by kernel_rfl!]
  rfl
noncomputable abbrev RR := PySem.Challenge.rw_wr0050_01.row
theorem lk9x (w : World) (os : OsState) : (xlAt qv [] (sh27 w os) && recOk (RowW.records RR.toRowW) (sh27 w os)) = true := by kernel_rfl!
theorem lk9y (w : World) (os : OsState) : (!leftWithCleanup (sh27 w os).gens) = true := by kernel_rfl!
noncomputable abbrev HK : Hook := kHook KF [nat_lit 2, nat_lit 3, nat_lit 22, nat_lit 26, nat_lit 28, nat_lit 29, nat_lit 31, nat_lit 32, nat_lit 33, nat_lit 72, nat_lit 74, nat_lit 75, nat_lit 77, nat_lit 78, nat_lit 79, nat_lit 81, nat_lit 82, nat_lit 84, nat_lit 85, nat_lit 86, nat_lit 93, nat_lit 94, nat_lit 95, nat_lit 96, nat_lit 99, nat_lit 106, nat_lit 107, nat_lit 108, nat_lit 111, nat_lit 118, nat_lit 119, nat_lit 120, nat_lit 123, nat_lit 125, nat_lit 126, nat_lit 128, nat_lit 129, nat_lit 130, nat_lit 132, nat_lit 133, nat_lit 135, nat_lit 136, nat_lit 137, nat_lit 139, nat_lit 140, nat_lit 142, nat_lit 143, nat_lit 144, nat_lit 146, nat_lit 147, nat_lit 149, nat_lit 150, nat_lit 151, nat_lit 153, nat_lit 154, nat_lit 156, nat_lit 157, nat_lit 158, nat_lit 160, nat_lit 161, nat_lit 163, nat_lit 164, nat_lit 165, nat_lit 167, nat_lit 168, nat_lit 170, nat_lit 171, nat_lit 172, nat_lit 174, nat_lit 175, nat_lit 177, nat_lit 178, nat_lit 179, nat_lit 181, nat_lit 182, nat_lit 184, nat_lit 185, nat_lit 186, nat_lit 188, nat_lit 189, nat_lit 191, nat_lit 192, nat_lit 193, nat_lit 195, nat_lit 196, nat_lit 198, nat_lit 199, nat_lit 200, nat_lit 203, nat_lit 204, nat_lit 205, nat_lit 208, nat_lit 209] (fun _ => by kernel_rfl)
theorem lk9z (w : World) (os : OsState) : Hook.obs HK (sh27 w os) = Hook.val HK w := by kernel_rfl!
end Wr50
end
section
set_option maxRecDepth 100000
set_option maxHeartbeats 8000000
namespace Wr50
open PySem PySem.W PySem.Calls PyProof.Rows
/-! the row is well said: each look by itself -/
theorem said_of (l : OpenLaw) (h1 : l.row.wellSaid = true) (h2 : decide (l.foot ≤ (behindTheImports l.prog).length) = true) (h3 : l.footing.all footLine = true) (h4 : noClassBlock l.prog l.footing = true)
  (h5 : l.most.all (fun n => decide (63 ≤ n)) = true) (h6 : l.bound.all (fun n => decide (2 ^ 63 ≤ n)) = true)
  (h7 : noRoadLSs { strict := true, foot := some l.bound', writes := l.writes, may := l.may } l.footing = true)
  (h8 : defStands l.about l.above = true) (h9 : l.namesIt = true)
  (h10 : (["type", "isinstance", "issubclass", "getattr", "hasattr"] : List PySem.Str).all (fun n => l.about != [n]) = true)
  (h11 : l.bound'.all (fun n => !builtinNamed n || l.about == [n] || !l.reads n) = true)
  (h12 : (!l.writes || (l.prog.main.body.flatMap importedNames).all fun n => !l.reads n) = true)
  (h13 : ((l.prog.main.body.flatMap importedNames).all (fun n => !l.reads n || (drawsOf n l.prog.main.body).all fun mn => mn.2 != ("attrgetter" : PySem.Str) && mn.2 != ("methodcaller" : PySem.Str))) = true)
  (h14 : namesMeet l.prog l.footing (fun sc n => (!(["type", "isinstance", "issubclass", "getattr", "hasattr"] : List PySem.Str).contains n || sc.names.lookup n == some .globalImplicit) &&
    (l.may != some n || sc.kind == .module || sc.names.lookup n == some .globalImplicit)) = true)
  (h15 : l.own.contains l.name = true) (h16 : (l.own.eraseDups.length == l.own.length) = true) (h17 : l.own.all (fun n => !builtinNamed n) = true)
  (h18 : namesMeet l.prog l.above (fun _ n => !l.own.contains n) = true) (h19 : namesMeet l.prog l.footing (fun sc n => sc.kind == .module || sc.names.lookup n != some .globalExplicit) = true) : l.wellSaid = true := by
  unfold OpenLaw.wellSaid
  rw [h1, h2, h3, h4, h5, h6, h7, h8, h9, h10, h11, h12, h13, h14, h15, h16, h17, h18, h19]
  rfl
theorem said_row (r : OpenRow) (h1 : looksOpen r.prog = true) (h2 : r.loose.isEmpty = true) (h3 : r.makers.isEmpty = true) (h4 : (r.records.isEmpty || r.raises.all fun ct => ct.1 != .builtin "AttributeError" && ct.1 != .builtin "TypeError") = true)
  (h5 : (r.raises.all fun ct => match ct.1 with | .builtin n => !r.prog.boundNames.contains (Str.ofString n) && !ofTheWorld.contains n | .own _ => true) = true)
  (h6 : decide (r.records.map (·.1)).Nodup = true) (h7 : (r.records.all fun x => !x.1.opensWith "__" && !builtinNamed x.1 && r.prog.boundNames.contains x.1 && x.2.all fun f => !f.1.opensWith "__") = true)
  (h8 : r.toRowW.solid = true) (h9 : r.pre.litsOk = true) (h10 : r.post.litsOk = true) (h11 : r.raises.all (·.2.litsOk) = true)
  (h12 : r.mutates.all (fun i => match r.args[i]? with
    | some sh => !sh.arms.any WShape.isObj
    | none => false) = true)
  (h13 : r.within.all (fun i => decide (i < r.args.length)) = true) (h14 : r.same.all (fun i => decide (i < r.args.length)) = true)
  (h15 : r.prog.boundNames.contains r.name = true) (h16 : (!startupNames.contains r.name) = true) : r.wellSaid = true :=
  (look_both (look_both (look_both (look_both (look_both (look_both (look_both (look_both (look_both (look_both (look_both (look_both (look_both (look_both (look_both h1 h2) h3) h4) h5) h6) h7) h8) h9) h10) h11) h12) h13) h14) h15) h16)
noncomputable abbrev LLx := PySem.Challenge.rw_wr0050_01
noncomputable abbrev RRx := PySem.Challenge.rw_wr0050_01.row
theorem lo_1 : sreFenced RRx.prog.main = true := by kernel_rfl
theorem lo_2 : ((moduleNames RRx.prog.main.body).isEmpty || lookedIntoSs (moduleNames RRx.prog.main.body) RRx.prog.main.body) = true := by kernel_rfl
theorem lo_3 : namesResolve RRx.prog = true := by kernel_rfl
theorem lo_4 : RRx.prog.boundNames.all (fun n => !worldNames.contains n) = true := by kernel_rfl
theorem lo_5 : noRoadLSs { strict := !(importedModules RRx.prog.main.body).all cThrough.contains, foot := none, bare := (["vars", "dir", "locals"] : List PySem.Str).filter (readsOut RRx.prog RRx.prog.main.body) } RRx.prog.main.body = true := by kernel_rfl
theorem lo_6 : namesMeet RRx.prog RRx.prog.main.body (fun _ n => attrL n) = true := by kernel_rfl
theorem lr1 : looksOpen RRx.prog = true := look_both (look_both (look_both (look_both (look_both lo_1 lo_2) lo_3) lo_4) lo_5) lo_6
theorem lr2 : (RRx.loose.isEmpty) = true := by kernel_rfl
theorem lr3 : (RRx.makers.isEmpty) = true := by kernel_rfl
theorem lr4 : ((RRx.records.isEmpty || RRx.raises.all fun ct => ct.1 != .builtin "AttributeError" && ct.1 != .builtin "TypeError")) = true := by kernel_rfl
theorem lr5 : ((RRx.raises.all fun ct => match ct.1 with | .builtin n => !RRx.prog.boundNames.contains (Str.ofString n) && !ofTheWorld.contains n | .own _ => true)) = true := by kernel_rfl
theorem lr6 : (decide (RRx.records.map (·.1)).Nodup) = true := by kernel_rfl
theorem lr7 : ((RRx.records.all fun x => !x.1.opensWith "__" && !builtinNamed x.1 && RRx.prog.boundNames.contains x.1 && x.2.all fun f => !f.1.opensWith "__")) = true := by kernel_rfl
theorem lr8 : (RRx.toRowW.solid) = true := by kernel_rfl
theorem lr9 : (RRx.pre.litsOk) = true := by kernel_rfl
theorem lr10 : (RRx.post.litsOk) = true := by kernel_rfl
theorem lr11 : (RRx.raises.all (·.2.litsOk)) = true := by kernel_rfl
theorem lr12 : (RRx.mutates.all (fun i => match RRx.args[i]? with
    | some sh => !sh.arms.any WShape.isObj
    | none => false)) = true := by kernel_rfl
theorem lr13 : (RRx.within.all (fun i => decide (i < RRx.args.length))) = true := by kernel_rfl
theorem lr14 : (RRx.same.all (fun i => decide (i < RRx.args.length))) = true := by kernel_rfl
theorem lr15 : (RRx.prog.boundNames.contains RRx.name) = true := by kernel_rfl
theorem lr16 : ((!startupNames.contains RRx.name)) = true := by kernel_rfl
theorem lh1 : LLx.row.wellSaid = true := said_row RRx lr1 lr2 lr3 lr4 lr5 lr6 lr7 lr8 lr9 lr10 lr11 lr12 lr13 lr14 lr15 lr16
theorem lh2 : (decide (LLx.foot ≤ (behindTheImports LLx.prog).length)) = true := by kernel_rfl
theorem lh3 : (LLx.footing.all footLine) = true := by kernel_rfl
theorem lh4 : (noClassBlock LLx.prog LLx.footing) = true := by kernel_rfl
theorem lh5 : (LLx.most.all (fun n => decide (63 ≤ n))) = true := by kernel_rfl
theorem lh6 : (LLx.bound.all (fun n => decide (2 ^ 63 ≤ n))) = true := by kernel_rfl
theorem lh7 : (noRoadLSs { strict := true, foot := some LLx.bound', writes := LLx.writes, may := LLx.may } LLx.footing) = true := by kernel_rfl
theorem lh8 : (defStands LLx.about LLx.above) = true := by kernel_rfl
theorem lh9 : (LLx.namesIt) = true := by kernel_rfl
theorem lh10 : ((["type", "isinstance", "issubclass", "getattr", "hasattr"] : List PySem.Str).all (fun n => LLx.about != [n])) = true := by kernel_rfl
theorem lh11 : (LLx.bound'.all (fun n => !builtinNamed n || LLx.about == [n] || !LLx.reads n)) = true := by kernel_rfl
theorem lh12 : ((!LLx.writes || (LLx.prog.main.body.flatMap importedNames).all fun n => !LLx.reads n)) = true := by kernel_rfl
theorem lh13 : (((LLx.prog.main.body.flatMap importedNames).all (fun n => !LLx.reads n || (drawsOf n LLx.prog.main.body).all fun mn => mn.2 != ("attrgetter" : PySem.Str) && mn.2 != ("methodcaller" : PySem.Str)))) = true := by kernel_rfl
theorem lh14 : (namesMeet LLx.prog LLx.footing (fun sc n => (!(["type", "isinstance", "issubclass", "getattr", "hasattr"] : List PySem.Str).contains n || sc.names.lookup n == some .globalImplicit) &&
    (LLx.may != some n || sc.kind == .module || sc.names.lookup n == some .globalImplicit))) = true := by kernel_rfl
theorem lh15 : (LLx.own.contains LLx.name) = true := by kernel_rfl
theorem lh16 : ((LLx.own.eraseDups.length == LLx.own.length)) = true := by kernel_rfl
theorem lh17 : (LLx.own.all (fun n => !builtinNamed n)) = true := by kernel_rfl
theorem lh18 : (namesMeet LLx.prog LLx.above (fun _ n => !LLx.own.contains n)) = true := by kernel_rfl
theorem lh19 : (namesMeet LLx.prog LLx.footing (fun sc n => sc.kind == .module || sc.names.lookup n != some .globalExplicit)) = true := by kernel_rfl
theorem law_said : LLx.wellSaid = true := said_of LLx lh1 lh2 lh3 lh4 lh5 lh6 lh7 lh8 lh9 lh10 lh11 lh12 lh13 lh14 lh15 lh16 lh17 lh18 lh19
end Wr50
end
section
open PySem PySem.W PySem.Calls PyProof.Rows
set_option maxRecDepth 100000
set_option maxHeartbeats 8000000
namespace Wr50
/-- the statement, when law walks -/
theorem T_of (hc : WalkO qv lo (XL qv []) (Hook.says HK) PySem.Challenge.rw_wr0050_01.row.toRowW { name := Str.ofString "law", params := p26.1, body := b26.1, scope := s26.1, pos := { line := 154, col := 0, endLine := 189, endCol := 53 } } [] fun f vs => call f vs) : PySem.Challenge.rw_wr0050_01.Holds := by
  w_on
  refine holds_law law_said fun said => ?_
  refine holds_open (q := qv) (loose := lo) (Xt := fun s => xlAt qv [] s && recOk (RowW.records RR.toRowW) s) (XP := XL qv []) (Yf := Hook.obs HK) (Ya := Hook.val HK) (YP := Hook.says HK) (N := 29522) ?hl (Hook.of HK) (Hook.keeps HK) (fun s e => xl_of s (Bool.and_eq_true_iff.mp e).1) XL.keeps (by rfl) (by rfl) (by rfl) (fun s e => recFacts_of (Bool.and_eq_true_iff.mp e).2) (by rfl) (by first | assumption | decide +kernel) (by decide +kernel) ⟨rfl, rfl, rfl, rfl, rfl, by decide +kernel⟩ ?hw ?hc
  case hl =>
    refine LeftO.of_pieces (H₁ := hp27) (gs₁ := #[]) (d₁ := drawn0) (k₁ := 2414) (hopen _ rfl) hsize (fun w os => run27 w os) rfl ?looks
    intro w
    funext os
    refine looks_pair ?_ (looks_pair ?_ ?_)
    · show (staticsOk (importedModules PW.main.body) (boot_heap w.params) (hp27 w.params) && namesBound PW (hp27 w.params) && gensDone (sh27 w os) && laidKept (boot_heap w.params) (hp27 w.params)) = true
      rw [lk1, lk2, lk3, lk4]; rfl
    · unfold openSeen openGood
      refine looks_pair (lk9a w os) (looks_pair (lk9b w os) (looks_pair ?_ (looks_pair (congrArg Prod.fst (lk9d w os)) (looks_pair (congrArg Prod.snd (lk9d w os)) (looks_pair (lk9e w os) (looks_pair (lk9f w os) (looks_pair (lk9g w os) (lk9h w os))))))))
      show ((sh27 w os).heap.keysOk (looseW qv lo) ((recsOf qv).map (·.name)) ((litsOf qv).map (·.1)) ((clssOf qv (looseW qv lo)).map (·.name)) && (sh27 w os).heap.accountedOkI (importedModules PW.main.body) && (sh27 w os).heap.isNs mainGlobals && (sh27 w os).heap.isNs builtinsNs && tablesOk qv (sh27 w os).heap && (xlAt qv [] (sh27 w os) && recOk (RowW.records RR.toRowW) (sh27 w os)) && (sh27 w os).gens.size == 0) = true
      have h3 := lk9c3 w os
      rw [Bool.and_eq_true] at h3
      rw [lk9c1, lk9c2, h3.1, h3.2, lk9c4, lk9x]; rfl
    · exact lk9z w os
  case hw => w_witness2
  case hc => exact hc
end Wr50
end
section
set_option maxRecDepth 100000
set_option maxHeartbeats 8000000
namespace Wr50
open PySem PySem.W PySem.Calls PyProof.Rows
theorem lw : looseW qv lo = lo := by decide +kernel
theorem law_walks : WalkO qv lo (XL qv []) (Hook.says HK) PySem.Challenge.rw_wr0050_01.row.toRowW { name := Str.ofString "law", params := p26.1, body := b26.1, scope := s26.1, pos := { line := 154, col := 0, endLine := 189, endCol := 53 } } [] fun f vs => call f vs := by
  delta HK
  k_fill
  intro w s₀ s₁ mg mb G Y fa o pm cd doc dV kV ho hd hcd hD hmg hg args vals as hpre hlay hrd hwl hlo
  have KX := kIn_of Y
  refine Ground.open G ?_
  intro T B D TE TW
  rw [lw] at T
  have hfa : fa = 209 := by
    have h1 := mg_of KX T.g (n := Str.ofString "law") (v := .ref 209) (by with_unfolding_all rfl)
    rw [show mg (Str.ofString "law") = some (.ref fa) from hmg] at h1
    injection h1 with h1
    injection h1
  subst hfa
  have K0 := below_caller (Top.heap T)
  wrow_args hpre hlay hrd hwl hlo
  rename IntsAre _ _ => hI
  rename Heap.IsList _ _ _ => hL
  rename ¬ _ => hc
  refine ps_law w _ _ _ hI (by omega) (1 + claimMargin) 4 (some []) [] s₁.heap (ExcName.means s₀.heap) mg mb s₁ _ _ K0 KX T (by decide) (by decide) hL ?_
  rintro _ h' tk' hk rfl
  refine GoodW.toG ?_
  refine ⟨.inl ⟨_, _, _, rfl, raisesW_false ?_, .bool true, ?_, unshared_nil⟩, hk, rfl, hg⟩
  · wrow_none_raised
  · wrow_post
theorem T : PySem.Challenge.rw_wr0050_01.Holds := T_of law_walks
end Wr50
end
theorem PySem.Challenge.cw_wr0050_01_holds : PySem.Challenge.rw_wr0050_01.Holds :=
  Wr50.T
