import PyProof.Rows.All
import Wide.All
import OpenK.AllK
import Wide.FinOn
import PySem.Challenge.RW_wj0062_01
set_option Elab.async false
set_option maxRecDepth 100000
set_option linter.unusedVariables false
set_option rowWalk.seconds 0
set_option compiler.extract_closed false
section
open PySem PySem.W PyProof.Rows
namespace Mine
/-- the statement at a place of a block -/
noncomputable def nth : List Stmt → Nat → Stmt
  | [], _ => .Pass ⟨0, 0, 0, 0⟩
  | s :: _, 0 => s
  | _ :: r, n + 1 => nth r n
noncomputable def noArgs : Arguments := ⟨[], [], none, [], [], none, []⟩
noncomputable def noScope : Scope := ⟨.function, [], false, false, []⟩
noncomputable def dName : Stmt → Str
  | .FunctionDef n .. => n
  | _ => ⟨#[]⟩
noncomputable def dParams : Stmt → Arguments
  | .FunctionDef _ a .. => a
  | _ => noArgs
noncomputable def dBody : Stmt → List Stmt
  | .FunctionDef _ _ b .. => b
  | _ => []
noncomputable def dScope : Stmt → Scope
  | .FunctionDef _ _ _ _ _ _ s .. => s
  | _ => noScope
noncomputable def cBody : Stmt → List Stmt
  | .ClassDef _ _ _ b .. => b
  | _ => []
/-- the program's statement number i -/
noncomputable def st (i : Nat) : Stmt := nth PySem.Challenge.pw_wj0062_01.main.body i
/-- an entry of the program's table of exceptions, as the top leaves it: the keys and the values are the text's -/
noncomputable def b3Entry (i : Nat) : Option PySem.Expr → PySem.Expr → DictEntry
  | some (.Constant (.int k) _ _), .Constant (.str s) _ _ => match Nat.ble 646 i with
    | false => ⟨k, .int k (256 + 3 * i), .str s (257 + 3 * i)⟩
    | true => ⟨k, .int k (2194 + 2 * (i - 646)), .str s (2195 + 2 * (i - 646))⟩
  | _, _ => ⟨0, .none, .none⟩
noncomputable def b3Go : Nat → List (Option PySem.Expr) → List PySem.Expr → List DictEntry
  | n, k :: ks, v :: vs => b3Entry n k v :: b3Go (n + 1) ks vs
  | _, _, _ => []
noncomputable def b3Of : Stmt → List DictEntry
  | .Assign _ (.Dict ks vs _) _ => b3Go 0 ks vs
  | _ => []
noncomputable def b3Entries : Array DictEntry := (b3Of (st 3)).toArray
noncomputable def o2 (P : Params) : Obj := ⟨.none, none, (.dict #[] 0), #[]⟩
noncomputable def o3 (P : Params) : Obj := ⟨(.type "dict"), none, (.dict #[⟨PyData.keyHash P (Str.ofString "__name__"), (.str (Str.ofString "__name__") 165), (.str (Str.ofString "law_wj0062_01") 2360)⟩, ⟨PyData.keyHash P (Str.ofString "__doc__"), (.str (Str.ofString "__doc__") 166), .none⟩, ⟨PyData.keyHash P (Str.ofString "__package__"), (.str (Str.ofString "__package__") 167), .none⟩, ⟨PyData.keyHash P (Str.ofString "__loader__"), (.str (Str.ofString "__loader__") 168), (.builtin "__main__.__loader__#opaque")⟩, ⟨PyData.keyHash P (Str.ofString "__spec__"), (.str (Str.ofString "__spec__") 169), .none⟩, ⟨PyData.keyHash P (Str.ofString "__annotations__"), (.str (Str.ofString "__annotations__") 170), (.ref 6)⟩, ⟨PyData.keyHash P (Str.ofString "__builtins__"), (.str (Str.ofString "__builtins__") 171), (.ref 4)⟩, ⟨PyData.keyHash P (Str.ofString "__file__"), (.str (Str.ofString "__file__") 173), (.str (Str.ofString "/claim/cut.py") 172)⟩, ⟨PyData.keyHash P (Str.ofString "__cached__"), (.str (Str.ofString "__cached__") 174), .none⟩, ⟨PyData.keyHash P (Str.ofString "b1_set"), (.str (Str.ofString "b1_set") 248), (.ref 22)⟩, ⟨PyData.keyHash P (Str.ofString "in_table_b1"), (.str (Str.ofString "in_table_b1") 255), (.ref 32)⟩, ⟨PyData.keyHash P (Str.ofString "b3_exceptions"), (.str (Str.ofString "b3_exceptions") 2206), (.ref 33)⟩, ⟨PyData.keyHash P (Str.ofString "map_table_b3"), (.str (Str.ofString "map_table_b3") 2214), (.ref 78)⟩, ⟨PyData.keyHash P (Str.ofString "in_table_c11"), (.str (Str.ofString "in_table_c11") 2221), (.ref 85)⟩, ⟨PyData.keyHash P (Str.ofString "in_table_c4"), (.str (Str.ofString "in_table_c4") 2229), (.ref 92)⟩, ⟨PyData.keyHash P (Str.ofString "Int2AP"), (.str (Str.ofString "Int2AP") 2241), (.ref 99)⟩, ⟨PyData.keyHash P (Str.ofString "_netrclex"), (.str (Str.ofString "_netrclex") 2301), (.ref 137)⟩, ⟨PyData.keyHash P (Str.ofString "gt"), (.str (Str.ofString "gt") 2311), (.ref 148)⟩, ⟨PyData.keyHash P (Str.ofString "neg"), (.str (Str.ofString "neg") 2318), (.ref 155)⟩, ⟨PyData.keyHash P (Str.ofString "delitem"), (.str (Str.ofString "delitem") 2326), (.ref 162)⟩, ⟨PyData.keyHash P (Str.ofString "setitem"), (.str (Str.ofString "setitem") 2335), (.ref 169)⟩, ⟨PyData.keyHash P (Str.ofString "iadd"), (.str (Str.ofString "iadd") 2343), (.ref 176)⟩, ⟨PyData.keyHash P (Str.ofString "imul"), (.str (Str.ofString "imul") 2351), (.ref 183)⟩, ⟨PyData.keyHash P (Str.ofString "isub"), (.str (Str.ofString "isub") 2359), (.ref 190)⟩, ⟨PyData.keyHash P (Str.ofString "_law_lexer"), (.str (Str.ofString "_law_lexer") 2372), (.ref 197)⟩, ⟨PyData.keyHash P (Str.ofString "_law_drawn"), (.str (Str.ofString "_law_drawn") 2378), (.ref 202)⟩, ⟨PyData.keyHash P (Str.ofString "_law_row"), (.str (Str.ofString "_law_row") 2384), (.ref 207)⟩, ⟨PyData.keyHash P (Str.ofString "_law_told"), (.str (Str.ofString "_law_told") 2395), (.ref 214)⟩, ⟨PyData.keyHash P (Str.ofString "_law_size"), (.str (Str.ofString "_law_size") 2403), (.ref 221)⟩, ⟨PyData.keyHash P (Str.ofString "_law_asked"), (.str (Str.ofString "_law_asked") 2418), (.ref 228)⟩, ⟨PyData.keyHash P (Str.ofString "_law_missed"), (.str (Str.ofString "_law_missed") 2437), (.ref 235)⟩, ⟨PyData.keyHash P (Str.ofString "_law_rest"), (.str (Str.ofString "_law_rest") 2443), (.ref 240)⟩, ⟨PyData.keyHash P (Str.ofString "_law_greatest"), (.str (Str.ofString "_law_greatest") 2464), (.ref 247)⟩, ⟨PyData.keyHash P (Str.ofString "law"), (.str (Str.ofString "law") 2470), (.ref 252)⟩] 34), #[]⟩
noncomputable def o22 (P : Params) : Obj := ⟨(.type "set"), none, (.set #[(65024, (.int 65024 205)), (65025, (.int 65025 206)), (65026, (.int 65026 207)), (65027, (.int 65027 208)), (65028, (.int 65028 209)), (65029, (.int 65029 210)), (6150, (.int 6150 191)), (65030, (.int 65030 211)), (65031, (.int 65031 212)), (65032, (.int 65032 213)), (65033, (.int 65033 214)), (6155, (.int 6155 192)), (6156, (.int 6156 193)), (6157, (.int 6157 194)), (8203, (.int 8203 195)), (8204, (.int 8204 196)), (8205, (.int 8205 197)), (65034, (.int 65034 215)), (65035, (.int 65035 216)), (65036, (.int 65036 217)), (65037, (.int 65037 218)), (65038, (.int 65038 219)), (65039, (.int 65039 220)), (173, (.int 173 189)), (847, (.int 847 190)), (8288, (.int 8288 198)), (65279, (.int 65279 199))] 29 ⟨127, #[0, 1, 2, 3, 4, 5, 6, 7, 8, 9, 10, 11, 12, 13, 14, 15, 16, 17, 18, 19, 20, 21, 22, 45, 79, 96, 127], #[], 0, !P.followText "set-order", 2, true⟩), #[]⟩
noncomputable def o26 (P : Params) : Obj := ⟨(.type "tuple"), none, (.seq #[] 0), #[]⟩
noncomputable def o28 (P : Params) : Obj := ⟨(.type "tuple"), none, (.seq #[(.str (Str.ofString "code") 252)] 0), #[]⟩
noncomputable def o29 (P : Params) : Obj := ⟨(.type "tuple"), none, (.seq #[] 0), #[]⟩
noncomputable def o31 (P : Params) : Obj := ⟨(.type "code"), none, (.fields #[(.str (Str.ofString "in_table_b1") 249), (.str (Str.ofString "in_table_b1") 250), (.str (Str.ofString "/claim/cut.py") 251), (.int 3 0), (.int 1 0), (.int 0 0), (.int 0 0), (.int 3 0), (.ref 26), (.bool true), (.int 181 0), (.ref 27), .none, (.ref 28), (.ref 29), (.ref 30), (.int 253 0), (.int 3 0), (.str (Str.ofString "/claim/cut.py") 254)]), #[]⟩
noncomputable def r32 (P : Params) : Obj := ⟨(.type "function"), none, (.func ⟨dName (st 2), (Str.ofString "in_table_b1"), dParams (st 2), .stmts (dBody (st 2)), dScope (st 2), 3, [], .none, .none, .none, (.str (Str.ofString "cpy313.stringprep") 187), none, (.ref 31), .none, 0⟩), #[]⟩
noncomputable def o32 (P : Params) : Obj := (⟨⟨_, _, .func ⟨_, _, ⟨_, _, _, _, _, _, _⟩, .stmts (_ :: _), ⟨_, _, _, _, _⟩, _, _, _, _, _, _, _, _, _, _⟩, _⟩, rfl⟩ : {o : Obj // o = r32 P}).1
noncomputable def o33 (P : Params) : Obj := ⟨(.type "dict"), none, (.dict b3Entries 650), #[]⟩
noncomputable def o72 (P : Params) : Obj := ⟨(.type "tuple"), none, (.seq #[] 0), #[]⟩
noncomputable def o74 (P : Params) : Obj := ⟨(.type "tuple"), none, (.seq #[(.str (Str.ofString "code") 2210), (.str (Str.ofString "r") 2211)] 0), #[]⟩
noncomputable def o75 (P : Params) : Obj := ⟨(.type "tuple"), none, (.seq #[] 0), #[]⟩
noncomputable def o77 (P : Params) : Obj := ⟨(.type "code"), none, (.fields #[(.str (Str.ofString "map_table_b3") 2207), (.str (Str.ofString "map_table_b3") 2208), (.str (Str.ofString "/claim/cut.py") 2209), (.int 6 0), (.int 1 0), (.int 0 0), (.int 0 0), (.int 3 0), (.ref 72), (.bool true), (.int 181 0), (.ref 73), .none, (.ref 74), (.ref 75), (.ref 76), (.int 2212 0), (.int 6 0), (.str (Str.ofString "/claim/cut.py") 2213)]), #[]⟩
noncomputable def r78 (P : Params) : Obj := ⟨(.type "function"), none, (.func ⟨dName (st 4), (Str.ofString "map_table_b3"), dParams (st 4), .stmts (dBody (st 4)), dScope (st 4), 3, [], .none, .none, .none, (.str (Str.ofString "cpy313.stringprep") 187), none, (.ref 77), .none, 0⟩), #[]⟩
noncomputable def o78 (P : Params) : Obj := (⟨⟨_, _, .func ⟨_, _, ⟨_, _, _, _, _, _, _⟩, .stmts (_ :: _), ⟨_, _, _, _, _⟩, _, _, _, _, _, _, _, _, _, _⟩, _⟩, rfl⟩ : {o : Obj // o = r78 P}).1
noncomputable def o79 (P : Params) : Obj := ⟨(.type "tuple"), none, (.seq #[] 0), #[]⟩
noncomputable def o81 (P : Params) : Obj := ⟨(.type "tuple"), none, (.seq #[(.str (Str.ofString "code") 2218)] 0), #[]⟩
noncomputable def o82 (P : Params) : Obj := ⟨(.type "tuple"), none, (.seq #[] 0), #[]⟩
noncomputable def o84 (P : Params) : Obj := ⟨(.type "code"), none, (.fields #[(.str (Str.ofString "in_table_c11") 2215), (.str (Str.ofString "in_table_c11") 2216), (.str (Str.ofString "/claim/cut.py") 2217), (.int 11 0), (.int 1 0), (.int 0 0), (.int 0 0), (.int 3 0), (.ref 79), (.bool true), (.int 181 0), (.ref 80), .none, (.ref 81), (.ref 82), (.ref 83), (.int 2219 0), (.int 11 0), (.str (Str.ofString "/claim/cut.py") 2220)]), #[]⟩
noncomputable def r85 (P : Params) : Obj := ⟨(.type "function"), none, (.func ⟨dName (st 5), (Str.ofString "in_table_c11"), dParams (st 5), .stmts (dBody (st 5)), dScope (st 5), 3, [], .none, .none, .none, (.str (Str.ofString "cpy313.stringprep") 187), none, (.ref 84), .none, 0⟩), #[]⟩
noncomputable def o85 (P : Params) : Obj := (⟨⟨_, _, .func ⟨_, _, ⟨_, _, _, _, _, _, _⟩, .stmts (_ :: _), ⟨_, _, _, _, _⟩, _, _, _, _, _, _, _, _, _, _⟩, _⟩, rfl⟩ : {o : Obj // o = r85 P}).1
noncomputable def o86 (P : Params) : Obj := ⟨(.type "tuple"), none, (.seq #[] 0), #[]⟩
noncomputable def o88 (P : Params) : Obj := ⟨(.type "tuple"), none, (.seq #[(.str (Str.ofString "code") 2225), (.str (Str.ofString "c") 2226)] 0), #[]⟩
noncomputable def o89 (P : Params) : Obj := ⟨(.type "tuple"), none, (.seq #[] 0), #[]⟩
noncomputable def o91 (P : Params) : Obj := ⟨(.type "code"), none, (.fields #[(.str (Str.ofString "in_table_c4") 2222), (.str (Str.ofString "in_table_c4") 2223), (.str (Str.ofString "/claim/cut.py") 2224), (.int 13 0), (.int 1 0), (.int 0 0), (.int 0 0), (.int 3 0), (.ref 86), (.bool true), (.int 181 0), (.ref 87), .none, (.ref 88), (.ref 89), (.ref 90), (.int 2227 0), (.int 13 0), (.str (Str.ofString "/claim/cut.py") 2228)]), #[]⟩
noncomputable def r92 (P : Params) : Obj := ⟨(.type "function"), none, (.func ⟨dName (st 6), (Str.ofString "in_table_c4"), dParams (st 6), .stmts (dBody (st 6)), dScope (st 6), 3, [], .none, .none, .none, (.str (Str.ofString "cpy313.stringprep") 187), none, (.ref 91), .none, 0⟩), #[]⟩
noncomputable def o92 (P : Params) : Obj := (⟨⟨_, _, .func ⟨_, _, ⟨_, _, _, _, _, _, _⟩, .stmts (_ :: _), ⟨_, _, _, _, _⟩, _, _, _, _, _, _, _, _, _, _⟩, _⟩, rfl⟩ : {o : Obj // o = r92 P}).1
noncomputable def o93 (P : Params) : Obj := ⟨(.type "tuple"), none, (.seq #[] 0), #[]⟩
noncomputable def o95 (P : Params) : Obj := ⟨(.type "tuple"), none, (.seq #[(.str (Str.ofString "num") 2235), (.str (Str.ofString "val") 2236), (.str (Str.ofString "AP") 2237), (.str (Str.ofString "mod") 2238)] 0), #[]⟩
noncomputable def o96 (P : Params) : Obj := ⟨(.type "tuple"), none, (.seq #[] 0), #[]⟩
noncomputable def o98 (P : Params) : Obj := ⟨(.type "code"), none, (.fields #[(.str (Str.ofString "Int2AP") 2232), (.str (Str.ofString "Int2AP") 2233), (.str (Str.ofString "/claim/cut.py") 2234), (.int 21 0), (.int 1 0), (.int 0 0), (.int 0 0), (.int 3 0), (.ref 93), (.bool true), (.int 181 0), (.ref 94), .none, (.ref 95), (.ref 96), (.ref 97), (.int 2239 0), (.int 21 0), (.str (Str.ofString "/claim/cut.py") 2240)]), #[]⟩
noncomputable def r99 (P : Params) : Obj := ⟨(.type "function"), none, (.func ⟨dName (st 8), (Str.ofString "Int2AP"), dParams (st 8), .stmts (dBody (st 8)), dScope (st 8), 3, [], .none, .none, .none, (.str (Str.ofString "cpy313.imaplib") 2230), none, (.ref 98), .none, 0⟩), #[]⟩
noncomputable def o99 (P : Params) : Obj := (⟨⟨_, _, .func ⟨_, _, ⟨_, _, _, _, _, _, _⟩, .stmts (_ :: _), ⟨_, _, _, _, _⟩, _, _, _, _, _, _, _, _, _, _⟩, _⟩, rfl⟩ : {o : Obj // o = r99 P}).1
noncomputable def o107 (P : Params) : Obj := ⟨(.type "tuple"), none, (.seq #[] 0), #[]⟩
noncomputable def o109 (P : Params) : Obj := ⟨(.type "tuple"), none, (.seq #[(.str (Str.ofString "self") 2259), (.str (Str.ofString "fp") 2260)] 0), #[]⟩
noncomputable def o110 (P : Params) : Obj := ⟨(.type "tuple"), none, (.seq #[] 0), #[]⟩
noncomputable def o112 (P : Params) : Obj := ⟨(.type "code"), none, (.fields #[(.str (Str.ofString "__init__") 2256), (.str (Str.ofString "_netrclex.__init__") 2257), (.str (Str.ofString "/claim/cut.py") 2258), (.int 32 0), (.int 2 0), (.int 0 0), (.int 0 0), (.int 3 0), (.ref 107), (.bool true), (.int 181 0), (.ref 108), .none, (.ref 109), (.ref 110), (.ref 111), (.int 2261 0), (.int 32 0), (.str (Str.ofString "/claim/cut.py") 2262)]), #[]⟩
noncomputable def r113 (P : Params) : Obj := ⟨(.type "function"), none, (.func ⟨dName (nth (cBody (st 10)) 0), (Str.ofString "_netrclex.__init__"), dParams (nth (cBody (st 10)) 0), .stmts (dBody (nth (cBody (st 10)) 0)), dScope (nth (cBody (st 10)) 0), 3, [], .none, .none, .none, (.str (Str.ofString "cpy313.netrc") 2242), none, (.ref 112), .none, 0⟩), #[]⟩
noncomputable def o113 (P : Params) : Obj := (⟨⟨_, _, .func ⟨_, _, ⟨_, _, _, _, _, _, _⟩, .stmts (_ :: _), ⟨_, _, _, _, _⟩, _, _, _, _, _, _, _, _, _, _⟩, _⟩, rfl⟩ : {o : Obj // o = r113 P}).1
noncomputable def o114 (P : Params) : Obj := ⟨(.type "tuple"), none, (.seq #[] 0), #[]⟩
noncomputable def o116 (P : Params) : Obj := ⟨(.type "tuple"), none, (.seq #[(.str (Str.ofString "self") 2267), (.str (Str.ofString "ch") 2268)] 0), #[]⟩
noncomputable def o117 (P : Params) : Obj := ⟨(.type "tuple"), none, (.seq #[] 0), #[]⟩
noncomputable def o119 (P : Params) : Obj := ⟨(.type "code"), none, (.fields #[(.str (Str.ofString "_read_char") 2264), (.str (Str.ofString "_netrclex._read_char") 2265), (.str (Str.ofString "/claim/cut.py") 2266), (.int 38 0), (.int 1 0), (.int 0 0), (.int 0 0), (.int 3 0), (.ref 114), (.bool true), (.int 181 0), (.ref 115), .none, (.ref 116), (.ref 117), (.ref 118), (.int 2269 0), (.int 38 0), (.str (Str.ofString "/claim/cut.py") 2270)]), #[]⟩
noncomputable def r120 (P : Params) : Obj := ⟨(.type "function"), none, (.func ⟨dName (nth (cBody (st 10)) 1), (Str.ofString "_netrclex._read_char"), dParams (nth (cBody (st 10)) 1), .stmts (dBody (nth (cBody (st 10)) 1)), dScope (nth (cBody (st 10)) 1), 3, [], .none, .none, .none, (.str (Str.ofString "cpy313.netrc") 2242), none, (.ref 119), .none, 0⟩), #[]⟩
noncomputable def o120 (P : Params) : Obj := (⟨⟨_, _, .func ⟨_, _, ⟨_, _, _, _, _, _, _⟩, .stmts (_ :: _), ⟨_, _, _, _, _⟩, _, _, _, _, _, _, _, _, _, _⟩, _⟩, rfl⟩ : {o : Obj // o = r120 P}).1
noncomputable def o121 (P : Params) : Obj := ⟨(.type "tuple"), none, (.seq #[] 0), #[]⟩
noncomputable def o123 (P : Params) : Obj := ⟨(.type "tuple"), none, (.seq #[(.str (Str.ofString "self") 2275), (.str (Str.ofString "token") 2276), (.str (Str.ofString "fiter") 2277), (.str (Str.ofString "ch") 2278)] 0), #[]⟩
noncomputable def o124 (P : Params) : Obj := ⟨(.type "tuple"), none, (.seq #[] 0), #[]⟩
noncomputable def o126 (P : Params) : Obj := ⟨(.type "code"), none, (.fields #[(.str (Str.ofString "get_token") 2272), (.str (Str.ofString "_netrclex.get_token") 2273), (.str (Str.ofString "/claim/cut.py") 2274), (.int 44 0), (.int 1 0), (.int 0 0), (.int 0 0), (.int 3 0), (.ref 121), (.bool true), (.int 181 0), (.ref 122), .none, (.ref 123), (.ref 124), (.ref 125), (.int 2279 0), (.int 44 0), (.str (Str.ofString "/claim/cut.py") 2280)]), #[]⟩
noncomputable def r127 (P : Params) : Obj := ⟨(.type "function"), none, (.func ⟨dName (nth (cBody (st 10)) 2), (Str.ofString "_netrclex.get_token"), dParams (nth (cBody (st 10)) 2), .stmts (dBody (nth (cBody (st 10)) 2)), dScope (nth (cBody (st 10)) 2), 3, [], .none, .none, .none, (.str (Str.ofString "cpy313.netrc") 2242), none, (.ref 126), .none, 0⟩), #[]⟩
noncomputable def o127 (P : Params) : Obj := (⟨⟨_, _, .func ⟨_, _, ⟨_, _, _, _, _, _, _⟩, .stmts (_ :: _), ⟨_, _, _, _, _⟩, _, _, _, _, _, _, _, _, _, _⟩, _⟩, rfl⟩ : {o : Obj // o = r127 P}).1
noncomputable def o128 (P : Params) : Obj := ⟨(.type "tuple"), none, (.seq #[] 0), #[]⟩
noncomputable def o130 (P : Params) : Obj := ⟨(.type "tuple"), none, (.seq #[(.str (Str.ofString "self") 2285), (.str (Str.ofString "token") 2286)] 0), #[]⟩
noncomputable def o131 (P : Params) : Obj := ⟨(.type "tuple"), none, (.seq #[] 0), #[]⟩
noncomputable def o133 (P : Params) : Obj := ⟨(.type "code"), none, (.fields #[(.str (Str.ofString "push_token") 2282), (.str (Str.ofString "_netrclex.push_token") 2283), (.str (Str.ofString "/claim/cut.py") 2284), (.int 71 0), (.int 2 0), (.int 0 0), (.int 0 0), (.int 3 0), (.ref 128), (.bool true), (.int 181 0), (.ref 129), .none, (.ref 130), (.ref 131), (.ref 132), (.int 2287 0), (.int 71 0), (.str (Str.ofString "/claim/cut.py") 2288)]), #[]⟩
noncomputable def r134 (P : Params) : Obj := ⟨(.type "function"), none, (.func ⟨dName (nth (cBody (st 10)) 3), (Str.ofString "_netrclex.push_token"), dParams (nth (cBody (st 10)) 3), .stmts (dBody (nth (cBody (st 10)) 3)), dScope (nth (cBody (st 10)) 3), 3, [], .none, .none, .none, (.str (Str.ofString "cpy313.netrc") 2242), none, (.ref 133), .none, 0⟩), #[]⟩
noncomputable def o134 (P : Params) : Obj := (⟨⟨_, _, .func ⟨_, _, ⟨_, _, _, _, _, _, _⟩, .stmts (_ :: _), ⟨_, _, _, _, _⟩, _, _, _, _, _, _, _, _, _, _⟩, _⟩, rfl⟩ : {o : Obj // o = r134 P}).1
noncomputable def o135 (P : Params) : Obj := ⟨(.type "tuple"), none, (.seq #[(.str (Str.ofString "instream") 2290), (.str (Str.ofString "lineno") 2291), (.str (Str.ofString "pushback") 2292), (.str (Str.ofString "whitespace") 2293)] 0), #[]⟩
noncomputable def o136 (P : Params) : Obj := ⟨(.type "dict"), none, (.dict #[⟨PyData.keyHash P (Str.ofString "__module__"), (.str (Str.ofString "__module__") 2251), (.str (Str.ofString "cpy313.netrc") 2242)⟩, ⟨PyData.keyHash P (Str.ofString "__firstlineno__"), (.str (Str.ofString "__firstlineno__") 2255), (.int 30 2254)⟩, ⟨PyData.keyHash P (Str.ofString "__init__"), (.str (Str.ofString "__init__") 2263), (.ref 113)⟩, ⟨PyData.keyHash P (Str.ofString "_read_char"), (.str (Str.ofString "_read_char") 2271), (.ref 120)⟩, ⟨PyData.keyHash P (Str.ofString "get_token"), (.str (Str.ofString "get_token") 2281), (.ref 127)⟩, ⟨PyData.keyHash P (Str.ofString "push_token"), (.str (Str.ofString "push_token") 2289), (.ref 134)⟩, ⟨PyData.keyHash P (Str.ofString "__static_attributes__"), (.str (Str.ofString "__static_attributes__") 2294), (.ref 135)⟩, ⟨PyData.keyHash P (Str.ofString "__dict__"), (.str (Str.ofString "__dict__") 2296), (.ref 138)⟩, ⟨PyData.keyHash P (Str.ofString "__weakref__"), (.str (Str.ofString "__weakref__") 2298), (.ref 139)⟩, ⟨PyData.keyHash P (Str.ofString "__doc__"), (.str (Str.ofString "__doc__") 2299), .none⟩] 4), #[]⟩
noncomputable def o137 (P : Params) : Obj := ⟨(.type "type"), none, (.cls ⟨(Str.ofString "_netrclex"), [(.type "object")], [(.ref 137), (.type "object")], 136, (Str.ofString "_netrclex"), true, [], [], false, none, false⟩), #[none, none, (some (.str (Str.ofString "_netrclex") 2244)), (some (.str (Str.ofString "_netrclex") 2252)), (some (.builtin "object.__new__")), (some (.bool true))]⟩
noncomputable def o138 (P : Params) : Obj := ⟨(.type "getset_descriptor"), none, (.fields #[(.str (Str.ofString "__dict__") 2295), (.ref 137), (.builtin "function.__dict__"), (.builtin "function.__dict__#set")]), #[]⟩
noncomputable def o139 (P : Params) : Obj := ⟨(.type "getset_descriptor"), none, (.fields #[(.str (Str.ofString "__weakref__") 2297), (.ref 137), (.builtin "ExceptionGroup.__weakref__"), .none]), #[]⟩
noncomputable def o142 (P : Params) : Obj := ⟨(.type "tuple"), none, (.seq #[] 0), #[]⟩
noncomputable def o144 (P : Params) : Obj := ⟨(.type "tuple"), none, (.seq #[(.str (Str.ofString "a") 2307), (.str (Str.ofString "b") 2308)] 0), #[]⟩
noncomputable def o145 (P : Params) : Obj := ⟨(.type "tuple"), none, (.seq #[] 0), #[]⟩
noncomputable def o147 (P : Params) : Obj := ⟨(.type "code"), none, (.fields #[(.str (Str.ofString "gt") 2304), (.str (Str.ofString "gt") 2305), (.str (Str.ofString "/claim/cut.py") 2306), (.int 74 0), (.int 2 0), (.int 0 0), (.int 0 0), (.int 3 0), (.ref 142), (.bool true), (.int 181 0), (.ref 143), .none, (.ref 144), (.ref 145), (.ref 146), (.int 2309 0), (.int 74 0), (.str (Str.ofString "/claim/cut.py") 2310)]), #[]⟩
noncomputable def r148 (P : Params) : Obj := ⟨(.type "function"), none, (.func ⟨dName (st 12), (Str.ofString "gt"), dParams (st 12), .stmts (dBody (st 12)), dScope (st 12), 3, [], .none, .none, .none, (.str (Str.ofString "cpy313.operator") 2302), none, (.ref 147), .none, 0⟩), #[]⟩
noncomputable def o148 (P : Params) : Obj := (⟨⟨_, _, .func ⟨_, _, ⟨_, _, _, _, _, _, _⟩, .stmts (_ :: _), ⟨_, _, _, _, _⟩, _, _, _, _, _, _, _, _, _, _⟩, _⟩, rfl⟩ : {o : Obj // o = r148 P}).1
noncomputable def o149 (P : Params) : Obj := ⟨(.type "tuple"), none, (.seq #[] 0), #[]⟩
noncomputable def o151 (P : Params) : Obj := ⟨(.type "tuple"), none, (.seq #[(.str (Str.ofString "a") 2315)] 0), #[]⟩
noncomputable def o152 (P : Params) : Obj := ⟨(.type "tuple"), none, (.seq #[] 0), #[]⟩
noncomputable def o154 (P : Params) : Obj := ⟨(.type "code"), none, (.fields #[(.str (Str.ofString "neg") 2312), (.str (Str.ofString "neg") 2313), (.str (Str.ofString "/claim/cut.py") 2314), (.int 76 0), (.int 1 0), (.int 0 0), (.int 0 0), (.int 3 0), (.ref 149), (.bool true), (.int 181 0), (.ref 150), .none, (.ref 151), (.ref 152), (.ref 153), (.int 2316 0), (.int 76 0), (.str (Str.ofString "/claim/cut.py") 2317)]), #[]⟩
noncomputable def r155 (P : Params) : Obj := ⟨(.type "function"), none, (.func ⟨dName (st 13), (Str.ofString "neg"), dParams (st 13), .stmts (dBody (st 13)), dScope (st 13), 3, [], .none, .none, .none, (.str (Str.ofString "cpy313.operator") 2302), none, (.ref 154), .none, 0⟩), #[]⟩
noncomputable def o155 (P : Params) : Obj := (⟨⟨_, _, .func ⟨_, _, ⟨_, _, _, _, _, _, _⟩, .stmts (_ :: _), ⟨_, _, _, _, _⟩, _, _, _, _, _, _, _, _, _, _⟩, _⟩, rfl⟩ : {o : Obj // o = r155 P}).1
noncomputable def o156 (P : Params) : Obj := ⟨(.type "tuple"), none, (.seq #[] 0), #[]⟩
noncomputable def o158 (P : Params) : Obj := ⟨(.type "tuple"), none, (.seq #[(.str (Str.ofString "a") 2322), (.str (Str.ofString "b") 2323)] 0), #[]⟩
noncomputable def o159 (P : Params) : Obj := ⟨(.type "tuple"), none, (.seq #[] 0), #[]⟩
noncomputable def o161 (P : Params) : Obj := ⟨(.type "code"), none, (.fields #[(.str (Str.ofString "delitem") 2319), (.str (Str.ofString "delitem") 2320), (.str (Str.ofString "/claim/cut.py") 2321), (.int 78 0), (.int 2 0), (.int 0 0), (.int 0 0), (.int 3 0), (.ref 156), (.bool true), (.int 181 0), (.ref 157), .none, (.ref 158), (.ref 159), (.ref 160), (.int 2324 0), (.int 78 0), (.str (Str.ofString "/claim/cut.py") 2325)]), #[]⟩
noncomputable def r162 (P : Params) : Obj := ⟨(.type "function"), none, (.func ⟨dName (st 14), (Str.ofString "delitem"), dParams (st 14), .stmts (dBody (st 14)), dScope (st 14), 3, [], .none, .none, .none, (.str (Str.ofString "cpy313.operator") 2302), none, (.ref 161), .none, 0⟩), #[]⟩
noncomputable def o162 (P : Params) : Obj := (⟨⟨_, _, .func ⟨_, _, ⟨_, _, _, _, _, _, _⟩, .stmts (_ :: _), ⟨_, _, _, _, _⟩, _, _, _, _, _, _, _, _, _, _⟩, _⟩, rfl⟩ : {o : Obj // o = r162 P}).1
noncomputable def o163 (P : Params) : Obj := ⟨(.type "tuple"), none, (.seq #[] 0), #[]⟩
noncomputable def o165 (P : Params) : Obj := ⟨(.type "tuple"), none, (.seq #[(.str (Str.ofString "a") 2330), (.str (Str.ofString "b") 2331), (.str (Str.ofString "c") 2332)] 0), #[]⟩
noncomputable def o166 (P : Params) : Obj := ⟨(.type "tuple"), none, (.seq #[] 0), #[]⟩
noncomputable def o168 (P : Params) : Obj := ⟨(.type "code"), none, (.fields #[(.str (Str.ofString "setitem") 2327), (.str (Str.ofString "setitem") 2328), (.str (Str.ofString "/claim/cut.py") 2329), (.int 80 0), (.int 3 0), (.int 0 0), (.int 0 0), (.int 3 0), (.ref 163), (.bool true), (.int 181 0), (.ref 164), .none, (.ref 165), (.ref 166), (.ref 167), (.int 2333 0), (.int 80 0), (.str (Str.ofString "/claim/cut.py") 2334)]), #[]⟩
noncomputable def r169 (P : Params) : Obj := ⟨(.type "function"), none, (.func ⟨dName (st 15), (Str.ofString "setitem"), dParams (st 15), .stmts (dBody (st 15)), dScope (st 15), 3, [], .none, .none, .none, (.str (Str.ofString "cpy313.operator") 2302), none, (.ref 168), .none, 0⟩), #[]⟩
noncomputable def o169 (P : Params) : Obj := (⟨⟨_, _, .func ⟨_, _, ⟨_, _, _, _, _, _, _⟩, .stmts (_ :: _), ⟨_, _, _, _, _⟩, _, _, _, _, _, _, _, _, _, _⟩, _⟩, rfl⟩ : {o : Obj // o = r169 P}).1
noncomputable def o170 (P : Params) : Obj := ⟨(.type "tuple"), none, (.seq #[] 0), #[]⟩
noncomputable def o172 (P : Params) : Obj := ⟨(.type "tuple"), none, (.seq #[(.str (Str.ofString "a") 2339), (.str (Str.ofString "b") 2340)] 0), #[]⟩
noncomputable def o173 (P : Params) : Obj := ⟨(.type "tuple"), none, (.seq #[] 0), #[]⟩
noncomputable def o175 (P : Params) : Obj := ⟨(.type "code"), none, (.fields #[(.str (Str.ofString "iadd") 2336), (.str (Str.ofString "iadd") 2337), (.str (Str.ofString "/claim/cut.py") 2338), (.int 82 0), (.int 2 0), (.int 0 0), (.int 0 0), (.int 3 0), (.ref 170), (.bool true), (.int 181 0), (.ref 171), .none, (.ref 172), (.ref 173), (.ref 174), (.int 2341 0), (.int 82 0), (.str (Str.ofString "/claim/cut.py") 2342)]), #[]⟩
noncomputable def r176 (P : Params) : Obj := ⟨(.type "function"), none, (.func ⟨dName (st 16), (Str.ofString "iadd"), dParams (st 16), .stmts (dBody (st 16)), dScope (st 16), 3, [], .none, .none, .none, (.str (Str.ofString "cpy313.operator") 2302), none, (.ref 175), .none, 0⟩), #[]⟩
noncomputable def o176 (P : Params) : Obj := (⟨⟨_, _, .func ⟨_, _, ⟨_, _, _, _, _, _, _⟩, .stmts (_ :: _), ⟨_, _, _, _, _⟩, _, _, _, _, _, _, _, _, _, _⟩, _⟩, rfl⟩ : {o : Obj // o = r176 P}).1
noncomputable def o177 (P : Params) : Obj := ⟨(.type "tuple"), none, (.seq #[] 0), #[]⟩
noncomputable def o179 (P : Params) : Obj := ⟨(.type "tuple"), none, (.seq #[(.str (Str.ofString "a") 2347), (.str (Str.ofString "b") 2348)] 0), #[]⟩
noncomputable def o180 (P : Params) : Obj := ⟨(.type "tuple"), none, (.seq #[] 0), #[]⟩
noncomputable def o182 (P : Params) : Obj := ⟨(.type "code"), none, (.fields #[(.str (Str.ofString "imul") 2344), (.str (Str.ofString "imul") 2345), (.str (Str.ofString "/claim/cut.py") 2346), (.int 85 0), (.int 2 0), (.int 0 0), (.int 0 0), (.int 3 0), (.ref 177), (.bool true), (.int 181 0), (.ref 178), .none, (.ref 179), (.ref 180), (.ref 181), (.int 2349 0), (.int 85 0), (.str (Str.ofString "/claim/cut.py") 2350)]), #[]⟩
noncomputable def r183 (P : Params) : Obj := ⟨(.type "function"), none, (.func ⟨dName (st 17), (Str.ofString "imul"), dParams (st 17), .stmts (dBody (st 17)), dScope (st 17), 3, [], .none, .none, .none, (.str (Str.ofString "cpy313.operator") 2302), none, (.ref 182), .none, 0⟩), #[]⟩
noncomputable def o183 (P : Params) : Obj := (⟨⟨_, _, .func ⟨_, _, ⟨_, _, _, _, _, _, _⟩, .stmts (_ :: _), ⟨_, _, _, _, _⟩, _, _, _, _, _, _, _, _, _, _⟩, _⟩, rfl⟩ : {o : Obj // o = r183 P}).1
noncomputable def o184 (P : Params) : Obj := ⟨(.type "tuple"), none, (.seq #[] 0), #[]⟩
noncomputable def o186 (P : Params) : Obj := ⟨(.type "tuple"), none, (.seq #[(.str (Str.ofString "a") 2355), (.str (Str.ofString "b") 2356)] 0), #[]⟩
noncomputable def o187 (P : Params) : Obj := ⟨(.type "tuple"), none, (.seq #[] 0), #[]⟩
noncomputable def o189 (P : Params) : Obj := ⟨(.type "code"), none, (.fields #[(.str (Str.ofString "isub") 2352), (.str (Str.ofString "isub") 2353), (.str (Str.ofString "/claim/cut.py") 2354), (.int 88 0), (.int 2 0), (.int 0 0), (.int 0 0), (.int 3 0), (.ref 184), (.bool true), (.int 181 0), (.ref 185), .none, (.ref 186), (.ref 187), (.ref 188), (.int 2357 0), (.int 88 0), (.str (Str.ofString "/claim/cut.py") 2358)]), #[]⟩
noncomputable def r190 (P : Params) : Obj := ⟨(.type "function"), none, (.func ⟨dName (st 18), (Str.ofString "isub"), dParams (st 18), .stmts (dBody (st 18)), dScope (st 18), 3, [], .none, .none, .none, (.str (Str.ofString "cpy313.operator") 2302), none, (.ref 189), .none, 0⟩), #[]⟩
noncomputable def o190 (P : Params) : Obj := (⟨⟨_, _, .func ⟨_, _, ⟨_, _, _, _, _, _, _⟩, .stmts (_ :: _), ⟨_, _, _, _, _⟩, _, _, _, _, _, _, _, _, _, _⟩, _⟩, rfl⟩ : {o : Obj // o = r190 P}).1
noncomputable def o191 (P : Params) : Obj := ⟨(.type "tuple"), none, (.seq #[] 0), #[]⟩
noncomputable def o193 (P : Params) : Obj := ⟨(.type "tuple"), none, (.seq #[(.str (Str.ofString "page") 2365), (.str (Str.ofString "_law_read_on") 2366), (.str (Str.ofString "stream") 2367)] 0), #[]⟩
noncomputable def o194 (P : Params) : Obj := ⟨(.type "tuple"), none, (.seq #[(.str (Str.ofString "page") 2368), (.str (Str.ofString "at") 2369)] 0), #[]⟩
noncomputable def o196 (P : Params) : Obj := ⟨(.type "code"), none, (.fields #[(.str (Str.ofString "_law_lexer") 2362), (.str (Str.ofString "_law_lexer") 2363), (.str (Str.ofString "/claim/cut.py") 2364), (.int 92 0), (.int 1 0), (.int 0 0), (.int 0 0), (.int 3 0), (.ref 191), (.bool true), (.int 181 0), (.ref 192), .none, (.ref 193), (.ref 194), (.ref 195), (.int 2370 0), (.int 92 0), (.str (Str.ofString "/claim/cut.py") 2371)]), #[]⟩
noncomputable def r197 (P : Params) : Obj := ⟨(.type "function"), none, (.func ⟨dName (st 20), (Str.ofString "_law_lexer"), dParams (st 20), .stmts (dBody (st 20)), dScope (st 20), 3, [], .none, .none, .none, (.str (Str.ofString "law_wj0062_01") 2360), none, (.ref 196), .none, 0⟩), #[]⟩
noncomputable def o197 (P : Params) : Obj := (⟨⟨_, _, .func ⟨_, _, ⟨_, _, _, _, _, _, _⟩, .stmts (_ :: _), ⟨_, _, _, _, _⟩, _, _, _, _, _, _, _, _, _, _⟩, _⟩, rfl⟩ : {o : Obj // o = r197 P}).1
noncomputable def o198 (P : Params) : Obj := ⟨(.type "tuple"), none, (.seq #[] 0), #[]⟩
noncomputable def o201 (P : Params) : Obj := ⟨(.type "code"), none, (.fields #[(.str (Str.ofString "_law_drawn") 2373), (.str (Str.ofString "_law_drawn") 2374), (.str (Str.ofString "/claim/cut.py") 2375), (.int 102 0), (.int 1 0), (.int 0 0), (.int 0 0), (.int 3 0), (.ref 198), (.bool true), (.int 181 0), (.ref 199), .none, .none, .none, (.ref 200), (.int 2376 0), (.int 102 0), (.str (Str.ofString "/claim/cut.py") 2377)]), #[]⟩
noncomputable def r202 (P : Params) : Obj := ⟨(.type "function"), none, (.func ⟨dName (st 21), (Str.ofString "_law_drawn"), dParams (st 21), .stmts (dBody (st 21)), dScope (st 21), 3, [], .none, .none, .none, (.str (Str.ofString "law_wj0062_01") 2360), none, (.ref 201), .none, 0⟩), #[]⟩
noncomputable def o202 (P : Params) : Obj := (⟨⟨_, _, .func ⟨_, _, ⟨_, _, _, _, _, _, _⟩, .stmts (_ :: _), ⟨_, _, _, _, _⟩, _, _, _, _, _, _, _, _, _, _⟩, _⟩, rfl⟩ : {o : Obj // o = r202 P}).1
noncomputable def o203 (P : Params) : Obj := ⟨(.type "tuple"), none, (.seq #[] 0), #[]⟩
noncomputable def o206 (P : Params) : Obj := ⟨(.type "code"), none, (.fields #[(.str (Str.ofString "_law_row") 2379), (.str (Str.ofString "_law_row") 2380), (.str (Str.ofString "/claim/cut.py") 2381), (.int 110 0), (.int 3 0), (.int 0 0), (.int 0 0), (.int 3 0), (.ref 203), (.bool true), (.int 181 0), (.ref 204), .none, .none, .none, (.ref 205), (.int 2382 0), (.int 110 0), (.str (Str.ofString "/claim/cut.py") 2383)]), #[]⟩
noncomputable def r207 (P : Params) : Obj := ⟨(.type "function"), none, (.func ⟨dName (st 22), (Str.ofString "_law_row"), dParams (st 22), .stmts (dBody (st 22)), dScope (st 22), 3, [], .none, .none, .none, (.str (Str.ofString "law_wj0062_01") 2360), none, (.ref 206), .none, 0⟩), #[]⟩
noncomputable def o207 (P : Params) : Obj := (⟨⟨_, _, .func ⟨_, _, ⟨_, _, _, _, _, _, _⟩, .stmts (_ :: _), ⟨_, _, _, _, _⟩, _, _, _, _, _, _, _, _, _, _⟩, _⟩, rfl⟩ : {o : Obj // o = r207 P}).1
noncomputable def o208 (P : Params) : Obj := ⟨(.type "tuple"), none, (.seq #[] 0), #[]⟩
noncomputable def o210 (P : Params) : Obj := ⟨(.type "tuple"), none, (.seq #[(.str (Str.ofString "token") 2388), (.str (Str.ofString "number") 2389), (.str (Str.ofString "way") 2390), (.str (Str.ofString "out") 2391), (.str (Str.ofString "sign") 2392)] 0), #[]⟩
noncomputable def o211 (P : Params) : Obj := ⟨(.type "tuple"), none, (.seq #[] 0), #[]⟩
noncomputable def o213 (P : Params) : Obj := ⟨(.type "code"), none, (.fields #[(.str (Str.ofString "_law_told") 2385), (.str (Str.ofString "_law_told") 2386), (.str (Str.ofString "/claim/cut.py") 2387), (.int 127 0), (.int 1 0), (.int 0 0), (.int 0 0), (.int 3 0), (.ref 208), (.bool true), (.int 181 0), (.ref 209), .none, (.ref 210), (.ref 211), (.ref 212), (.int 2393 0), (.int 127 0), (.str (Str.ofString "/claim/cut.py") 2394)]), #[]⟩
noncomputable def r214 (P : Params) : Obj := ⟨(.type "function"), none, (.func ⟨dName (st 23), (Str.ofString "_law_told"), dParams (st 23), .stmts (dBody (st 23)), dScope (st 23), 3, [], .none, .none, .none, (.str (Str.ofString "law_wj0062_01") 2360), none, (.ref 213), .none, 0⟩), #[]⟩
noncomputable def o214 (P : Params) : Obj := (⟨⟨_, _, .func ⟨_, _, ⟨_, _, _, _, _, _, _⟩, .stmts (_ :: _), ⟨_, _, _, _, _⟩, _, _, _, _, _, _, _, _, _, _⟩, _⟩, rfl⟩ : {o : Obj // o = r214 P}).1
noncomputable def o215 (P : Params) : Obj := ⟨(.type "tuple"), none, (.seq #[] 0), #[]⟩
noncomputable def o217 (P : Params) : Obj := ⟨(.type "tuple"), none, (.seq #[(.str (Str.ofString "number") 2399), (.str (Str.ofString "word") 2400)] 0), #[]⟩
noncomputable def o218 (P : Params) : Obj := ⟨(.type "tuple"), none, (.seq #[] 0), #[]⟩
noncomputable def o220 (P : Params) : Obj := ⟨(.type "code"), none, (.fields #[(.str (Str.ofString "_law_size") 2396), (.str (Str.ofString "_law_size") 2397), (.str (Str.ofString "/claim/cut.py") 2398), (.int 139 0), (.int 1 0), (.int 0 0), (.int 0 0), (.int 3 0), (.ref 215), (.bool true), (.int 181 0), (.ref 216), .none, (.ref 217), (.ref 218), (.ref 219), (.int 2401 0), (.int 139 0), (.str (Str.ofString "/claim/cut.py") 2402)]), #[]⟩
noncomputable def r221 (P : Params) : Obj := ⟨(.type "function"), none, (.func ⟨dName (st 24), (Str.ofString "_law_size"), dParams (st 24), .stmts (dBody (st 24)), dScope (st 24), 3, [], .none, .none, .none, (.str (Str.ofString "law_wj0062_01") 2360), none, (.ref 220), .none, 0⟩), #[]⟩
noncomputable def o221 (P : Params) : Obj := (⟨⟨_, _, .func ⟨_, _, ⟨_, _, _, _, _, _, _⟩, .stmts (_ :: _), ⟨_, _, _, _, _⟩, _, _, _, _, _, _, _, _, _, _⟩, _⟩, rfl⟩ : {o : Obj // o = r221 P}).1
noncomputable def o222 (P : Params) : Obj := ⟨(.type "tuple"), none, (.seq #[] 0), #[]⟩
noncomputable def o224 (P : Params) : Obj := ⟨(.type "tuple"), none, (.seq #[(.str (Str.ofString "numbers") 2407), (.str (Str.ofString "four") 2408), (.str (Str.ofString "height") 2409), (.str (Str.ofString "whole") 2410), (.str (Str.ofString "weight") 2411), (.str (Str.ofString "k") 2412), (.str (Str.ofString "low") 2413), (.str (Str.ofString "middle") 2414), (.str (Str.ofString "high") 2415)] 0), #[]⟩
noncomputable def o225 (P : Params) : Obj := ⟨(.type "tuple"), none, (.seq #[] 0), #[]⟩
noncomputable def o227 (P : Params) : Obj := ⟨(.type "code"), none, (.fields #[(.str (Str.ofString "_law_asked") 2404), (.str (Str.ofString "_law_asked") 2405), (.str (Str.ofString "/claim/cut.py") 2406), (.int 142 0), (.int 2 0), (.int 0 0), (.int 0 0), (.int 3 0), (.ref 222), (.bool true), (.int 181 0), (.ref 223), .none, (.ref 224), (.ref 225), (.ref 226), (.int 2416 0), (.int 142 0), (.str (Str.ofString "/claim/cut.py") 2417)]), #[]⟩
noncomputable def r228 (P : Params) : Obj := ⟨(.type "function"), none, (.func ⟨dName (st 25), (Str.ofString "_law_asked"), dParams (st 25), .stmts (dBody (st 25)), dScope (st 25), 3, [], .none, .none, .none, (.str (Str.ofString "law_wj0062_01") 2360), none, (.ref 227), .none, 0⟩), #[]⟩
noncomputable def o228 (P : Params) : Obj := (⟨⟨_, _, .func ⟨_, _, ⟨_, _, _, _, _, _, _⟩, .stmts (_ :: _), ⟨_, _, _, _, _⟩, _, _, _, _, _, _, _, _, _, _⟩, _⟩, rfl⟩ : {o : Obj // o = r228 P}).1
noncomputable def o229 (P : Params) : Obj := ⟨(.type "tuple"), none, (.seq #[] 0), #[]⟩
noncomputable def o231 (P : Params) : Obj := ⟨(.type "tuple"), none, (.seq #[(.str (Str.ofString "numbers") 2422), (.str (Str.ofString "four") 2423), (.str (Str.ofString "height") 2424), (.str (Str.ofString "whole") 2425), (.str (Str.ofString "place") 2426), (.str (Str.ofString "low") 2427), (.str (Str.ofString "middle") 2428), (.str (Str.ofString "high") 2429), (.str (Str.ofString "one") 2430), (.str (Str.ofString "two") 2431), (.str (Str.ofString "three") 2432), (.str (Str.ofString "told") 2433), (.str (Str.ofString "scale") 2434)] 0), #[]⟩
noncomputable def o232 (P : Params) : Obj := ⟨(.type "tuple"), none, (.seq #[] 0), #[]⟩
noncomputable def o234 (P : Params) : Obj := ⟨(.type "code"), none, (.fields #[(.str (Str.ofString "_law_missed") 2419), (.str (Str.ofString "_law_missed") 2420), (.str (Str.ofString "/claim/cut.py") 2421), (.int 150 0), (.int 5 0), (.int 0 0), (.int 0 0), (.int 3 0), (.ref 229), (.bool true), (.int 181 0), (.ref 230), .none, (.ref 231), (.ref 232), (.ref 233), (.int 2435 0), (.int 150 0), (.str (Str.ofString "/claim/cut.py") 2436)]), #[]⟩
noncomputable def r235 (P : Params) : Obj := ⟨(.type "function"), none, (.func ⟨dName (st 26), (Str.ofString "_law_missed"), dParams (st 26), .stmts (dBody (st 26)), dScope (st 26), 3, [], .none, .none, .none, (.str (Str.ofString "law_wj0062_01") 2360), none, (.ref 234), .none, 0⟩), #[]⟩
noncomputable def o235 (P : Params) : Obj := (⟨⟨_, _, .func ⟨_, _, ⟨_, _, _, _, _, _, _⟩, .stmts (_ :: _), ⟨_, _, _, _, _⟩, _, _, _, _, _, _, _, _, _, _⟩, _⟩, rfl⟩ : {o : Obj // o = r235 P}).1
noncomputable def o236 (P : Params) : Obj := ⟨(.type "tuple"), none, (.seq #[] 0), #[]⟩
noncomputable def o239 (P : Params) : Obj := ⟨(.type "code"), none, (.fields #[(.str (Str.ofString "_law_rest") 2438), (.str (Str.ofString "_law_rest") 2439), (.str (Str.ofString "/claim/cut.py") 2440), (.int 160 0), (.int 3 0), (.int 0 0), (.int 0 0), (.int 3 0), (.ref 236), (.bool true), (.int 181 0), (.ref 237), .none, .none, .none, (.ref 238), (.int 2441 0), (.int 160 0), (.str (Str.ofString "/claim/cut.py") 2442)]), #[]⟩
noncomputable def r240 (P : Params) : Obj := ⟨(.type "function"), none, (.func ⟨dName (st 27), (Str.ofString "_law_rest"), dParams (st 27), .stmts (dBody (st 27)), dScope (st 27), 3, [], .none, .none, .none, (.str (Str.ofString "law_wj0062_01") 2360), none, (.ref 239), .none, 0⟩), #[]⟩
noncomputable def o240 (P : Params) : Obj := (⟨⟨_, _, .func ⟨_, _, ⟨_, _, _, _, _, _, _⟩, .stmts (_ :: _), ⟨_, _, _, _, _⟩, _, _, _, _, _, _, _, _, _, _⟩, _⟩, rfl⟩ : {o : Obj // o = r240 P}).1
noncomputable def o241 (P : Params) : Obj := ⟨(.type "tuple"), none, (.seq #[] 0), #[]⟩
noncomputable def o243 (P : Params) : Obj := ⟨(.type "tuple"), none, (.seq #[(.str (Str.ofString "numbers") 2447), (.str (Str.ofString "four") 2448), (.str (Str.ofString "height") 2449), (.str (Str.ofString "whole") 2450), (.str (Str.ofString "met") 2451), (.str (Str.ofString "d") 2452), (.str (Str.ofString "c") 2453), (.str (Str.ofString "b") 2454), (.str (Str.ofString "a") 2455), (.str (Str.ofString "p") 2456), (.str (Str.ofString "q") 2457), (.str (Str.ofString "r") 2458), (.str (Str.ofString "s") 2459), (.str (Str.ofString "due") 2460), (.str (Str.ofString "parts") 2461)] 0), #[]⟩
noncomputable def o244 (P : Params) : Obj := ⟨(.type "tuple"), none, (.seq #[] 0), #[]⟩
noncomputable def o246 (P : Params) : Obj := ⟨(.type "code"), none, (.fields #[(.str (Str.ofString "_law_greatest") 2444), (.str (Str.ofString "_law_greatest") 2445), (.str (Str.ofString "/claim/cut.py") 2446), (.int 186 0), (.int 4 0), (.int 0 0), (.int 0 0), (.int 3 0), (.ref 241), (.bool true), (.int 181 0), (.ref 242), .none, (.ref 243), (.ref 244), (.ref 245), (.int 2462 0), (.int 186 0), (.str (Str.ofString "/claim/cut.py") 2463)]), #[]⟩
noncomputable def r247 (P : Params) : Obj := ⟨(.type "function"), none, (.func ⟨dName (st 28), (Str.ofString "_law_greatest"), dParams (st 28), .stmts (dBody (st 28)), dScope (st 28), 3, [], .none, .none, .none, (.str (Str.ofString "law_wj0062_01") 2360), none, (.ref 246), .none, 0⟩), #[]⟩
noncomputable def o247 (P : Params) : Obj := (⟨⟨_, _, .func ⟨_, _, ⟨_, _, _, _, _, _, _⟩, .stmts (_ :: _), ⟨_, _, _, _, _⟩, _, _, _, _, _, _, _, _, _, _⟩, _⟩, rfl⟩ : {o : Obj // o = r247 P}).1
noncomputable def o248 (P : Params) : Obj := ⟨(.type "tuple"), none, (.seq #[] 0), #[]⟩
noncomputable def o251 (P : Params) : Obj := ⟨(.type "code"), none, (.fields #[(.str (Str.ofString "law") 2465), (.str (Str.ofString "law") 2466), (.str (Str.ofString "/claim/cut.py") 2467), (.int 201 0), (.int 1 0), (.int 0 0), (.int 0 0), (.int 3 0), (.ref 248), (.bool true), (.int 181 0), (.ref 249), .none, .none, .none, (.ref 250), (.int 2468 0), (.int 201 0), (.str (Str.ofString "/claim/cut.py") 2469)]), #[]⟩
noncomputable def r252 (P : Params) : Obj := ⟨(.type "function"), none, (.func ⟨dName (st 29), (Str.ofString "law"), dParams (st 29), .stmts (dBody (st 29)), dScope (st 29), 3, [], .none, .none, .none, (.str (Str.ofString "law_wj0062_01") 2360), none, (.ref 251), .none, 0⟩), #[]⟩
noncomputable def o252 (P : Params) : Obj := (⟨⟨_, _, .func ⟨_, _, ⟨_, _, _, _, _, _, _⟩, .stmts (_ :: _), ⟨_, _, _, _, _⟩, _, _, _, _, _, _, _, _, _, _⟩, _⟩, rfl⟩ : {o : Obj // o = r252 P}).1
noncomputable def K (P : Params) : Frag := (nat_lit 2, o2 P) :: (nat_lit 3, o3 P) :: (nat_lit 22, o22 P) :: (nat_lit 26, o26 P) :: (nat_lit 28, o28 P) :: (nat_lit 29, o29 P) :: (nat_lit 31, o31 P) :: (nat_lit 32, o32 P) :: (nat_lit 33, o33 P) :: (nat_lit 72, o72 P) :: (nat_lit 74, o74 P) :: (nat_lit 75, o75 P) :: (nat_lit 77, o77 P) :: (nat_lit 78, o78 P) :: (nat_lit 79, o79 P) :: (nat_lit 81, o81 P) :: (nat_lit 82, o82 P) :: (nat_lit 84, o84 P) :: (nat_lit 85, o85 P) :: (nat_lit 86, o86 P) :: (nat_lit 88, o88 P) :: (nat_lit 89, o89 P) :: (nat_lit 91, o91 P) :: (nat_lit 92, o92 P) :: (nat_lit 93, o93 P) :: (nat_lit 95, o95 P) :: (nat_lit 96, o96 P) :: (nat_lit 98, o98 P) :: (nat_lit 99, o99 P) :: (nat_lit 107, o107 P) :: (nat_lit 109, o109 P) :: (nat_lit 110, o110 P) :: (nat_lit 112, o112 P) :: (nat_lit 113, o113 P) :: (nat_lit 114, o114 P) :: (nat_lit 116, o116 P) :: (nat_lit 117, o117 P) :: (nat_lit 119, o119 P) :: (nat_lit 120, o120 P) :: (nat_lit 121, o121 P) :: (nat_lit 123, o123 P) :: (nat_lit 124, o124 P) :: (nat_lit 126, o126 P) :: (nat_lit 127, o127 P) :: (nat_lit 128, o128 P) :: (nat_lit 130, o130 P) :: (nat_lit 131, o131 P) :: (nat_lit 133, o133 P) :: (nat_lit 134, o134 P) :: (nat_lit 135, o135 P) :: (nat_lit 136, o136 P) :: (nat_lit 137, o137 P) :: (nat_lit 138, o138 P) :: (nat_lit 139, o139 P) :: (nat_lit 142, o142 P) :: (nat_lit 144, o144 P) :: (nat_lit 145, o145 P) :: (nat_lit 147, o147 P) :: (nat_lit 148, o148 P) :: (nat_lit 149, o149 P) :: (nat_lit 151, o151 P) :: (nat_lit 152, o152 P) :: (nat_lit 154, o154 P) :: (nat_lit 155, o155 P) :: (nat_lit 156, o156 P) :: (nat_lit 158, o158 P) :: (nat_lit 159, o159 P) :: (nat_lit 161, o161 P) :: (nat_lit 162, o162 P) :: (nat_lit 163, o163 P) :: (nat_lit 165, o165 P) :: (nat_lit 166, o166 P) :: (nat_lit 168, o168 P) :: (nat_lit 169, o169 P) :: (nat_lit 170, o170 P) :: (nat_lit 172, o172 P) :: (nat_lit 173, o173 P) :: (nat_lit 175, o175 P) :: (nat_lit 176, o176 P) :: (nat_lit 177, o177 P) :: (nat_lit 179, o179 P) :: (nat_lit 180, o180 P) :: (nat_lit 182, o182 P) :: (nat_lit 183, o183 P) :: (nat_lit 184, o184 P) :: (nat_lit 186, o186 P) :: (nat_lit 187, o187 P) :: (nat_lit 189, o189 P) :: (nat_lit 190, o190 P) :: (nat_lit 191, o191 P) :: (nat_lit 193, o193 P) :: (nat_lit 194, o194 P) :: (nat_lit 196, o196 P) :: (nat_lit 197, o197 P) :: (nat_lit 198, o198 P) :: (nat_lit 201, o201 P) :: (nat_lit 202, o202 P) :: (nat_lit 203, o203 P) :: (nat_lit 206, o206 P) :: (nat_lit 207, o207 P) :: (nat_lit 208, o208 P) :: (nat_lit 210, o210 P) :: (nat_lit 211, o211 P) :: (nat_lit 213, o213 P) :: (nat_lit 214, o214 P) :: (nat_lit 215, o215 P) :: (nat_lit 217, o217 P) :: (nat_lit 218, o218 P) :: (nat_lit 220, o220 P) :: (nat_lit 221, o221 P) :: (nat_lit 222, o222 P) :: (nat_lit 224, o224 P) :: (nat_lit 225, o225 P) :: (nat_lit 227, o227 P) :: (nat_lit 228, o228 P) :: (nat_lit 229, o229 P) :: (nat_lit 231, o231 P) :: (nat_lit 232, o232 P) :: (nat_lit 234, o234 P) :: (nat_lit 235, o235 P) :: (nat_lit 236, o236 P) :: (nat_lit 239, o239 P) :: (nat_lit 240, o240 P) :: (nat_lit 241, o241 P) :: (nat_lit 243, o243 P) :: (nat_lit 244, o244 P) :: (nat_lit 246, o246 P) :: (nat_lit 247, o247 P) :: (nat_lit 248, o248 P) :: (nat_lit 251, o251 P) :: (nat_lit 252, o252 P) :: []
noncomputable def Kas : List Addr := nat_lit 2 :: nat_lit 3 :: nat_lit 22 :: nat_lit 26 :: nat_lit 28 :: nat_lit 29 :: nat_lit 31 :: nat_lit 32 :: nat_lit 33 :: nat_lit 72 :: nat_lit 74 :: nat_lit 75 :: nat_lit 77 :: nat_lit 78 :: nat_lit 79 :: nat_lit 81 :: nat_lit 82 :: nat_lit 84 :: nat_lit 85 :: nat_lit 86 :: nat_lit 88 :: nat_lit 89 :: nat_lit 91 :: nat_lit 92 :: nat_lit 93 :: nat_lit 95 :: nat_lit 96 :: nat_lit 98 :: nat_lit 99 :: nat_lit 107 :: nat_lit 109 :: nat_lit 110 :: nat_lit 112 :: nat_lit 113 :: nat_lit 114 :: nat_lit 116 :: nat_lit 117 :: nat_lit 119 :: nat_lit 120 :: nat_lit 121 :: nat_lit 123 :: nat_lit 124 :: nat_lit 126 :: nat_lit 127 :: nat_lit 128 :: nat_lit 130 :: nat_lit 131 :: nat_lit 133 :: nat_lit 134 :: nat_lit 135 :: nat_lit 136 :: nat_lit 137 :: nat_lit 138 :: nat_lit 139 :: nat_lit 142 :: nat_lit 144 :: nat_lit 145 :: nat_lit 147 :: nat_lit 148 :: nat_lit 149 :: nat_lit 151 :: nat_lit 152 :: nat_lit 154 :: nat_lit 155 :: nat_lit 156 :: nat_lit 158 :: nat_lit 159 :: nat_lit 161 :: nat_lit 162 :: nat_lit 163 :: nat_lit 165 :: nat_lit 166 :: nat_lit 168 :: nat_lit 169 :: nat_lit 170 :: nat_lit 172 :: nat_lit 173 :: nat_lit 175 :: nat_lit 176 :: nat_lit 177 :: nat_lit 179 :: nat_lit 180 :: nat_lit 182 :: nat_lit 183 :: nat_lit 184 :: nat_lit 186 :: nat_lit 187 :: nat_lit 189 :: nat_lit 190 :: nat_lit 191 :: nat_lit 193 :: nat_lit 194 :: nat_lit 196 :: nat_lit 197 :: nat_lit 198 :: nat_lit 201 :: nat_lit 202 :: nat_lit 203 :: nat_lit 206 :: nat_lit 207 :: nat_lit 208 :: nat_lit 210 :: nat_lit 211 :: nat_lit 213 :: nat_lit 214 :: nat_lit 215 :: nat_lit 217 :: nat_lit 218 :: nat_lit 220 :: nat_lit 221 :: nat_lit 222 :: nat_lit 224 :: nat_lit 225 :: nat_lit 227 :: nat_lit 228 :: nat_lit 229 :: nat_lit 231 :: nat_lit 232 :: nat_lit 234 :: nat_lit 235 :: nat_lit 236 :: nat_lit 239 :: nat_lit 240 :: nat_lit 241 :: nat_lit 243 :: nat_lit 244 :: nat_lit 246 :: nat_lit 247 :: nat_lit 248 :: nat_lit 251 :: nat_lit 252 :: []
end Mine

end
section
open PySem PySem.W PyProof.Rows PySem.Calls
namespace Mine
noncomputable abbrev Pw : Program := PySem.Challenge.pw_wj0062_01
noncomputable abbrev Led := List (Addr × Obj)
/-- the ledger's objects are older than d -/
noncomputable def Low (d : Nat) (news : Led) : Prop := ∀ p ∈ news, @LT.lt Nat _ p.1 d
theorem Low.ne {d e : Nat} {news : Led} (h : Low d news := by with_reducible assumption) (hd : d ≤ e := by first | exact Nat.le_refl _ | exact Nat.le_of_lt (by walk_at "zz lt") | omega) : ∀ p ∈ news, p.1 ≠ e := fun p hp => Nat.ne_of_lt (Nat.lt_of_lt_of_le (h p hp) hd)
theorem Low.up {d e : Nat} {news : Led} (h : Low d news) (hd : d ≤ e) : Low e news := fun p hp => Nat.lt_of_lt_of_le (h p hp) hd
theorem lowOf {d : Nat} {news : Led} (h : ∀ p ∈ news, p.1 < d) : Low d news := h
theorem Low.tail {d : Nat} {x : Addr × Obj} {news : Led} (h : Low d (x :: news)) : Low d news := fun p hp => h p (List.mem_cons_of_mem _ hp)
theorem Low.nil {d : Nat} : Low d [] := fun p hp => nomatch hp
/-- what a call of one of the program's functions does: whoever calls it, whatever he holds -/
noncomputable def Claim (w : World) (p : Program) (loose : List Str) (mean : ExcName → Option Value) (mg mb : Str → Option Value) (n : Nat) (f : Addr) (vs : List Value) (news : Led) (Post : Value → Led → Prop) : Prop :=
  ∀ (dp un : Nat) (gd : Option (List Code)) (cn : Str) (cs : Scope) (a : Addr) (ccd : Value) (cl : List (Str × Addr)) (outer : List Env) (A₀ : Around) (base h₀ : Heap) (L : Addr) (m : Str → Option Value) (s : Shared) (R : Result → Shared → Prop),
    Below A₀ base outer h₀ → Fr h₀ L s.heap m → (K w.params).In h₀ → News h₀ L s.heap news → Top p loose mean mg mb h₀ → cs.kind = .function →
    dp + n < recursionLimit → un + 10 * n < cLine →
    (∀ (v : Value) (news' : Led) (h' : Heap) (tk' : Nat), Post v news' → Fr h₀ L h' m → News h₀ L h' news' → R (.ok (.ret v)) { s with heap := h', toks := tk' }) →
    codeAny (model Pw w) (ktrTop dp un gd cn cs L a ccd cl outer) (.call (.ref f) ⟨vs, []⟩) R s
section
variable {w : World} {p : Program} {loose : List Str} {mean : ExcName → Option Value} {mg mb : Str → Option Value} {n : Nat} {f : Addr} {vs : List Value} {news : Led} {Post : Value → Led → Prop}
  {dp un : Nat} {gd : Option (List Code)} {cn : Str} {cs : Scope} {a : Addr} {ccd : Value} {cl : List (Str × Addr)} {outer : List Env} {A₀ : Around} {base h₀ : Heap} {L : Addr} {m : Str → Option Value} {s : Shared}
theorem Claim.code {R : Result → Shared → Prop}
    (C : Claim w p loose mean mg mb n f vs news Post) (B : Below A₀ base outer h₀) (F : Fr h₀ L s.heap m) (X : (K w.params).In h₀) (N : News h₀ L s.heap news) (T : Top p loose mean mg mb h₀) (hk : cs.kind = .function)
    (hd : dp + n < recursionLimit) (hu : un + 10 * n < cLine)
    (ret : ∀ (v : Value) (news' : Led) (h' : Heap) (tk' : Nat), Post v news' → Fr h₀ L h' m → News h₀ L h' news' → R (.ok (.ret v)) { s with heap := h', toks := tk' }) :
    codeAny (model Pw w) (ktrTop dp un gd cn cs L a ccd cl outer) (.call (.ref f) ⟨vs, []⟩) R s := C dp un gd cn cs a ccd cl outer A₀ base h₀ L m s R B F X N T hk hd hu ret
theorem Claim.use {Q E : Value → Shared → Prop}
    (C : Claim w p loose mean mg mb n f vs news Post) (B : Below A₀ base outer h₀) (F : Fr h₀ L s.heap m) (X : (K w.params).In h₀) (N : News h₀ L s.heap news) (T : Top p loose mean mg mb h₀) (hk : cs.kind = .function)
    (hd : dp + n < recursionLimit) (hu : un + 10 * n < cLine)
    (ret : ∀ (v : Value) (news' : Led) (h' : Heap) (tk' : Nat), Post v news' → Fr h₀ L h' m → News h₀ L h' news' → Q v { s with heap := h', toks := tk' }) :
    wpAny (model Pw w) (ktrTop dp un gd cn cs L a ccd cl outer) (call (.ref f) vs) Q E s := wpAny_call (C.code B F X N T hk hd hu ret)
theorem Claim.weaken {n' : Nat} (C : Claim w p loose mean mg mb n f vs news Post) (h : n ≤ n') : Claim w p loose mean mg mb n' f vs news Post :=
  fun dp un gd cn cs a ccd cl outer A₀ base h₀ L m s R B F X N T hk hd hu ret => C dp un gd cn cs a ccd cl outer A₀ base h₀ L m s R B F X N T hk (by omega) (by omega) ret
theorem Claim.mono {Post' : Value → Led → Prop} (C : Claim w p loose mean mg mb n f vs news Post) (h : ∀ v n', Post v n' → Post' v n') : Claim w p loose mean mg mb n f vs news Post' :=
  fun dp un gd cn cs a ccd cl outer A₀ base h₀ L m s R B F X N T hk hd hu ret => C dp un gd cn cs a ccd cl outer A₀ base h₀ L m s R B F X N T hk hd hu fun v n' h' tk' hp => ret v n' h' tk' (h _ _ hp)
end
noncomputable def IsI (x : Int) (news : Led) (v : Value) (news' : Led) : Prop := (∃ t, v = .int x t) ∧ news' = news
noncomputable def IsB (x : Bool) (news : Led) (v : Value) (news' : Led) : Prop := v = .bool x ∧ news' = news
noncomputable def IsS (x : Str) (news : Led) (v : Value) (news' : Led) : Prop := (∃ t, v = .str x t) ∧ news' = news
noncomputable def IsNil (news : Led) (v : Value) (news' : Led) : Prop := v = .none ∧ news' = news
noncomputable def IsY (x : List UInt8) (news : Led) (v : Value) (news' : Led) : Prop := (∃ t, v = .bytes x.toArray t) ∧ news' = news

section
variable {w : World} {p : Program} {loose : List Str} {mean : ExcName → Option Value} {mg mb : Str → Option Value} {n : Nat} {f : Addr} {vs : List Value} {news : Led}
  {dp un : Nat} {gd : Option (List Code)} {cn : Str} {cs : Scope} {a : Addr} {ccd : Value} {cl : List (Str × Addr)} {outer : List Env} {A₀ : Around} {base h₀ : Heap} {L : Addr} {m : Str → Option Value} {s : Shared}
theorem Claim.useI {x : Int} {Q E : Value → Shared → Prop} (C : Claim w p loose mean mg mb n f vs news (IsI x news)) (B : Below A₀ base outer h₀) (F : Fr h₀ L s.heap m) (X : (K w.params).In h₀) (N : News h₀ L s.heap news) (T : Top p loose mean mg mb h₀) (hk : cs.kind = .function)
    (hd : dp + n < recursionLimit) (hu : un + 10 * n < cLine)
    (ret : ∀ (t : Tok) (h' : Heap) (tk' : Nat), Fr h₀ L h' m → News h₀ L h' news → Q (.int x t) { s with heap := h', toks := tk' }) :
    wpAny (model Pw w) (ktrTop dp un gd cn cs L a ccd cl outer) (call (.ref f) vs) Q E s :=
  C.use B F X N T hk hd hu fun v n' h' tk' hp F' N' => by obtain ⟨⟨t, rfl⟩, e⟩ := hp; exact ret t h' tk' F' (e ▸ N')
theorem Claim.useS {x : Str} {Q E : Value → Shared → Prop} (C : Claim w p loose mean mg mb n f vs news (IsS x news)) (B : Below A₀ base outer h₀) (F : Fr h₀ L s.heap m) (X : (K w.params).In h₀) (N : News h₀ L s.heap news) (T : Top p loose mean mg mb h₀) (hk : cs.kind = .function)
    (hd : dp + n < recursionLimit) (hu : un + 10 * n < cLine)
    (ret : ∀ (t : Tok) (h' : Heap) (tk' : Nat), Fr h₀ L h' m → News h₀ L h' news → Q (.str x t) { s with heap := h', toks := tk' }) :
    wpAny (model Pw w) (ktrTop dp un gd cn cs L a ccd cl outer) (call (.ref f) vs) Q E s :=
  C.use B F X N T hk hd hu fun v n' h' tk' hp F' N' => by obtain ⟨⟨t, rfl⟩, e⟩ := hp; exact ret t h' tk' F' (e ▸ N')
theorem Claim.useY {x : List UInt8} {Q E : Value → Shared → Prop} (C : Claim w p loose mean mg mb n f vs news (IsY x news)) (B : Below A₀ base outer h₀) (F : Fr h₀ L s.heap m) (X : (K w.params).In h₀) (N : News h₀ L s.heap news) (T : Top p loose mean mg mb h₀) (hk : cs.kind = .function)
    (hd : dp + n < recursionLimit) (hu : un + 10 * n < cLine)
    (ret : ∀ (t : Tok) (h' : Heap) (tk' : Nat), Fr h₀ L h' m → News h₀ L h' news → Q (.bytes x.toArray t) { s with heap := h', toks := tk' }) :
    wpAny (model Pw w) (ktrTop dp un gd cn cs L a ccd cl outer) (call (.ref f) vs) Q E s :=
  C.use B F X N T hk hd hu fun v n' h' tk' hp F' N' => by obtain ⟨⟨t, rfl⟩, e⟩ := hp; exact ret t h' tk' F' (e ▸ N')
theorem Claim.useB {x : Bool} {Q E : Value → Shared → Prop} (C : Claim w p loose mean mg mb n f vs news (IsB x news)) (B : Below A₀ base outer h₀) (F : Fr h₀ L s.heap m) (X : (K w.params).In h₀) (N : News h₀ L s.heap news) (T : Top p loose mean mg mb h₀) (hk : cs.kind = .function)
    (hd : dp + n < recursionLimit) (hu : un + 10 * n < cLine)
    (ret : ∀ (h' : Heap) (tk' : Nat), Fr h₀ L h' m → News h₀ L h' news → Q (.bool x) { s with heap := h', toks := tk' }) :
    wpAny (model Pw w) (ktrTop dp un gd cn cs L a ccd cl outer) (call (.ref f) vs) Q E s :=
  C.use B F X N T hk hd hu fun v n' h' tk' hp F' N' => by obtain ⟨rfl, e⟩ := hp; exact ret h' tk' F' (e ▸ N')
theorem Claim.go {Post : Value → Led → Prop} {Q E : Value → Shared → Prop} (C : Claim w p loose mean mg mb n f vs news Post)
    (ret : ∀ (v : Value) (news' : Led) (h' : Heap) (tk' : Nat), Post v news' → Fr h₀ L h' m → News h₀ L h' news' → Q v { s with heap := h', toks := tk' })
    (B : Below A₀ base outer h₀ := by k_asm) (F : Fr h₀ L s.heap m := by k_asm) (X : (K w.params).In h₀ := by k_asm) (N : News h₀ L s.heap news := by k_asm) (T : Top p loose mean mg mb h₀ := by k_asm) (hk : cs.kind = .function := by rfl)
    (hd : dp + n < recursionLimit := by walk_at "zz room") (hu : un + 10 * n < cLine := by walk_at "zz room") :
    wpAny (model Pw w) (ktrTop dp un gd cn cs L a ccd cl outer) (call (.ref f) vs) Q E s := C.use B F X N T hk hd hu ret
theorem Claim.goI {x : Int} {Q E : Value → Shared → Prop} (C : Claim w p loose mean mg mb n f vs news (IsI x news))
    (ret : ∀ (t : Tok) (h' : Heap) (tk' : Nat), Fr h₀ L h' m → News h₀ L h' news → Q (.int x t) { s with heap := h', toks := tk' })
    (B : Below A₀ base outer h₀ := by k_asm) (F : Fr h₀ L s.heap m := by k_asm) (X : (K w.params).In h₀ := by k_asm) (N : News h₀ L s.heap news := by k_asm) (T : Top p loose mean mg mb h₀ := by k_asm) (hk : cs.kind = .function := by rfl)
    (hd : dp + n < recursionLimit := by walk_at "zz room") (hu : un + 10 * n < cLine := by walk_at "zz room") :
    wpAny (model Pw w) (ktrTop dp un gd cn cs L a ccd cl outer) (call (.ref f) vs) Q E s := C.useI B F X N T hk hd hu ret
theorem Claim.goS {x : Str} {Q E : Value → Shared → Prop} (C : Claim w p loose mean mg mb n f vs news (IsS x news))
    (ret : ∀ (t : Tok) (h' : Heap) (tk' : Nat), Fr h₀ L h' m → News h₀ L h' news → Q (.str x t) { s with heap := h', toks := tk' })
    (B : Below A₀ base outer h₀ := by k_asm) (F : Fr h₀ L s.heap m := by k_asm) (X : (K w.params).In h₀ := by k_asm) (N : News h₀ L s.heap news := by k_asm) (T : Top p loose mean mg mb h₀ := by k_asm) (hk : cs.kind = .function := by rfl)
    (hd : dp + n < recursionLimit := by walk_at "zz room") (hu : un + 10 * n < cLine := by walk_at "zz room") :
    wpAny (model Pw w) (ktrTop dp un gd cn cs L a ccd cl outer) (call (.ref f) vs) Q E s := C.useS B F X N T hk hd hu ret
theorem Claim.goY {x : List UInt8} {Q E : Value → Shared → Prop} (C : Claim w p loose mean mg mb n f vs news (IsY x news))
    (ret : ∀ (t : Tok) (h' : Heap) (tk' : Nat), Fr h₀ L h' m → News h₀ L h' news → Q (.bytes x.toArray t) { s with heap := h', toks := tk' })
    (B : Below A₀ base outer h₀ := by k_asm) (F : Fr h₀ L s.heap m := by k_asm) (X : (K w.params).In h₀ := by k_asm) (N : News h₀ L s.heap news := by k_asm) (T : Top p loose mean mg mb h₀ := by k_asm) (hk : cs.kind = .function := by rfl)
    (hd : dp + n < recursionLimit := by walk_at "zz room") (hu : un + 10 * n < cLine := by walk_at "zz room") :
    wpAny (model Pw w) (ktrTop dp un gd cn cs L a ccd cl outer) (call (.ref f) vs) Q E s := C.useY B F X N T hk hd hu ret
theorem Claim.goB {x : Bool} {Q E : Value → Shared → Prop} (C : Claim w p loose mean mg mb n f vs news (IsB x news))
    (ret : ∀ (h' : Heap) (tk' : Nat), Fr h₀ L h' m → News h₀ L h' news → Q (.bool x) { s with heap := h', toks := tk' })
    (B : Below A₀ base outer h₀ := by k_asm) (F : Fr h₀ L s.heap m := by k_asm) (X : (K w.params).In h₀ := by k_asm) (N : News h₀ L s.heap news := by k_asm) (T : Top p loose mean mg mb h₀ := by k_asm) (hk : cs.kind = .function := by rfl)
    (hd : dp + n < recursionLimit := by walk_at "zz room") (hu : un + 10 * n < cLine := by walk_at "zz room") :
    wpAny (model Pw w) (ktrTop dp un gd cn cs L a ccd cl outer) (call (.ref f) vs) Q E s := C.useB B F X N T hk hd hu ret
end
section
variable {prog : Program} {w : World} {A A₀ : Around} {E : Value → Shared → Prop} {s : Shared} {KF : Frag} {L : Addr} {h₀ base : Heap} {m mg mb : Str → Option Value} {news : List (Addr × Obj)} {p : Program} {loose : List Str} {mean : ExcName → Option Value}
/-- a def without cells is entered; the ledger is older than its frame -/
theorem enter_plain {env : Env} {outer : List Env} {R : Result → Shared → Prop} {name qual : Str} {params : Arguments} {body : List Stmt} {scope : Scope} {dV kV doc pm cdv ct oc : Value} {an od : Option Addr} {osl : Array (Option Value)} {f : Addr} {args : Args} {binds : List (Str × Value)}
    (B : Below A₀ base outer h₀) (F : Fr h₀ L s.heap m) (X₀ : KF.In h₀) (N : News h₀ L s.heap news) (T : Top p loose mean mg mb h₀) (hA : A.frames = some (env :: outer)) (hf : env.frame = some L) (hke : env.scope.kind = .function)
    (ho : KF.lookup f = some ⟨oc, od, .func (fnOf name qual params body scope dV kV doc pm an cdv ct), osl⟩) (hcd : codeIn KF cdv qual = true) (hroom : A.depth < recursionLimit)
    (hbind : BindsTo s (fnOf name qual params body scope dV kV doc pm an cdv ct) args binds) (hloc : ∀ y ∈ binds, scope.names.lookup y.1 = some .local)
    (h : ∀ g L' h₁ tk, Fr h₀ L g m → Fr g L' h₁ (fun y => binds.reverse.lookup y) → News g L' h₁ news → Below A base (env :: outer) g → KF.In g → Top p loose mean mg mb g → Low L' news →
      wpAny (model prog w) (A.deeper (envOf qual scope L' f cdv)) (execs body (envOf qual scope L' f cdv))
        (fun fl s' => LeaveK h₀ L m g R (match fl with | .ret v => v | _ => .none) s')
        (fun e s' => wpAny (model prog w) (A.deeper (envOf qual scope L' f cdv)) (leaving (envOf qual scope L' f cdv) e) (fun _ s'' => R (.error e) s'') (fun e' s'' => R (.error e') s'') s')
        { s with heap := h₁, toks := tk })
    (hco : scope.isCoroutine = false) (hgen : scope.isGenerator = false) (hk : scope.kind = .function)
    (hcell : ∀ x ∈ scope.names, x.2 ≠ .cell) : codeAny (model prog w) A (.call (.ref f) args) R s :=
  callX_plain (cl := []) B F N T.nolimit hA hf hke ((X₀.keeps F.keep) _ _ ho) rfl (codeRec_of (X₀.keeps F.keep) hcd) hroom hbind hloc (fun g L' h₁ FG F' N' B' st lo => h g L' h₁ _ FG F' N' B' (X₀.keeps st) (T.keeps st) lo) hcell hco hgen hk
end
theorem big_of {P : Params} {g h : Heap} {L : Addr} {m : Str → Option Value} (X : (K P).In g) (F : Fr g L h m) : @LT.lt Nat _ 252 L := by
  have e : g.get? 252 = some (o252 P) := X 252 (o252 P) (by kernel_rfl)
  exact Nat.lt_of_lt_of_le (Heap.lt_size e) F.above
theorem atR {M : Model} {A : Around} {E Q : Value → Shared → Prop} {s : Shared} {vs : List Value} (f : Addr) (h : wpAny M A (call (.ref f) vs) Q E s) : wpAny M A (call (.ref f) vs) Q E s := h
section
variable {s : Shared} {fd : FuncData} {args : Args} {a b c d e : String} {u v x y z : Value}
theorem bt0 (h : bindArgs fd args = pure [] := by rfl) : BindsTo s fd args [] := .of_eq h
theorem bt1 (h : bindArgs fd args = pure [(Str.ofString a, u)] := by rfl) : BindsTo s fd args [(Str.ofString a, u)] := .of_eq h
theorem bt2 (h : bindArgs fd args = pure [(Str.ofString a, u), (Str.ofString b, v)] := by rfl) : BindsTo s fd args [(Str.ofString a, u), (Str.ofString b, v)] := .of_eq h
theorem bt3 (h : bindArgs fd args = pure [(Str.ofString a, u), (Str.ofString b, v), (Str.ofString c, x)] := by rfl) : BindsTo s fd args [(Str.ofString a, u), (Str.ofString b, v), (Str.ofString c, x)] := .of_eq h
theorem bt4 (h : bindArgs fd args = pure [(Str.ofString a, u), (Str.ofString b, v), (Str.ofString c, x), (Str.ofString d, y)] := by rfl) : BindsTo s fd args [(Str.ofString a, u), (Str.ofString b, v), (Str.ofString c, x), (Str.ofString d, y)] := .of_eq h
theorem bt5 (h : bindArgs fd args = pure [(Str.ofString a, u), (Str.ofString b, v), (Str.ofString c, x), (Str.ofString d, y), (Str.ofString e, z)] := by rfl) : BindsTo s fd args [(Str.ofString a, u), (Str.ofString b, v), (Str.ofString c, x), (Str.ofString d, y), (Str.ofString e, z)] := .of_eq h
end
theorem roomy0 {x n c : Nat} (h : x + n < c) : x < c := Nat.lt_of_le_of_lt (Nat.le_add_right x n) h
theorem fill : (PySem.Challenge.rw_wj0062_01, K) = (PySem.Challenge.rw_wj0062_01, K) := by k_fill; rfl
end Mine

end
section
open PySem PySem.W PyProof.Rows PySem.Calls PySem.Spec
namespace Mine
theorem store_function : StoreFacts "function" [.type "function", .type "object"] "object.__setattr__" "object" where
  mro := by kernel_rfl
  slot := .of (owner := "object") (n := "__setattr__") (by rw [typeLookup_type, builtinLookup_eq_fast]; kernel_rfl) (by decide +kernel) (by decide +kernel) (by decide +kernel)
    (by first | exact .inl (by decide +kernel) | exact .inr (by decide +kernel)) (by rw [isSubtype_type]; kernel_rfl)
  entry := PySem.F.entry_object_sa
  kind := by decide +kernel
  split := by decide +kernel
  hasOwner := by decide +kernel
  args := fun a b c => by unfold argsOk; kernel_rfl
  passes := fun self => by kernel_rfl
theorem fn_no_read : typeLookup (.type "function") "read" = pure none := by rw [typeLookup_type, builtinLookup_eq_fast]; kernel_rfl
theorem slot_fn_ga : Slot "function" "__getattribute__" "object.__getattribute__" := .of (owner := "object") (n := "__getattribute__") (by rw [typeLookup_type, builtinLookup_eq_fast]; kernel_rfl) (by decide +kernel) (by decide +kernel) (by decide +kernel)
    (by first | exact .inl (by decide +kernel) | exact .inr (by decide +kernel)) (by rw [isSubtype_type]; kernel_rfl)
theorem fn_no_getattr : typeLookup (.type "function") "__getattr__" = pure none := by rw [typeLookup_type, builtinLookup_eq_fast]; kernel_rfl
theorem entry_oga : entryFor table "object.__getattribute__" = some Builtin.«object.__getattribute__» := entryFor_of_tree (by kernel_rfl)
theorem oga_args (a b : Value) : argsOk "object.__getattribute__" ⟨[a, b], []⟩ := by unfold argsOk; kernel_rfl
section
variable {prog : Program} {w : World} {A : Around} {E : Value → Shared → Prop} {s : Shared} {L : Addr} {h₀ : Heap} {m : Str → Option Value} {news : List (Addr × Obj)} {g : Obj → List (Addr × Obj)}
noncomputable abbrev fnObj (fd : FuncData) (d : Option Addr) : Obj := { cls := .type "function", dict := d, data := .func fd }
theorem set_fn {fs : Addr} {fd : FuncData} {v : Value} {Q : Unit → Shared → Prop}
    (h : ∀ h' d tk tk', Fr h₀ L h' m → News h₀ L h' ((d, dictOf [⟨PyData.keyHash w.params "read", .str "read" tk, v⟩] 1) :: g (fnObj fd (some d))) → (∀ p ∈ news, p.1 < d) → Q () { s with heap := h', toks := tk' })
    (F : Fr h₀ L s.heap m := by k_dflt k_asm) (N : News h₀ L s.heap news := by k_dflt k_asm) (U : UpdF fs (fnObj fd none) news g := by k_dflt k_updF) :
    wpAny (model prog w) A (setAttr (.ref fs) "read" v) Q E s := by
  obtain ⟨pre, post, rfl, hg, h1, h2⟩ := U.split
  obtain ⟨hh, ge, dr, tk, os⟩ := s
  dsimp only at F N
  have SF := store_function
  have D := (N (fs, fnObj fd none) (by simp)).1
  have T1 : Looks (model prog w) hh (typeOf (.ref fs)) (.type "function") := (Looks.ld D).andThen .now
  refine wpAny_bind (wpAny_mkText (wpAny_bind (wpAny_bind (wpAny_bind (T1 _ _ _ _ (fun _ _ e => e) ((Looks.of_pure SF.slot.lookup).here (wpAny_holding ?_)))))))
  rw [SF.slot.bind]
  refine wpAny_bind (wpAny_pure (wpAny_bind (wpAny_call ?_)))
  have sub : Looks (model prog w) hh (isInstance (.ref fs) (.type "object")) true := T1.andThen (Looks.of_pure (by rw [isSubtype_type]; kernel_rfl))
  refine codeAny_call_builtin SF.slot.plain SF.entry (@check_slot (model prog w) _ _ _ "object.__setattr__" "object" "__setattr__" (.ref fs) [.str "read" tk, v] [] _ SF.kind SF.split sub (SF.args (.ref fs) (.str "read" tk) v) ?_)
  show wpAny _ _ (Builtin.«object.__setattr__» ⟨[.ref fs, .str "read" tk, v], []⟩) _ _ _
  rw [osa_eq, refuse_eq]
  refine wpAny_bind (wpAny_bind (T1 _ _ _ _ (fun _ _ e => e) (wpAny_bind ((Looks.of_pure SF.mro).here ?_))))
  rw [SF.passes]
  refine wpAny_pure (wpAny_bind (T1 _ _ _ _ (fun _ _ e => e) (wpAny_bind ((Looks.of_pure fn_no_read).here (wpAny_bind (wpAny_pure ?_))))))
  show wpAny _ _ (Builtin.ObjectAttr.storeInOwnDict (.ref fs) (.type "function") (.str "read" tk) "read" v false) _ _ _
  unfold Builtin.ObjectAttr.storeInOwnDict Builtin.ObjectAttr.ownDictForStores instanceDict
  refine wpAny_bind (wpAny_pure (wpAny_bind (wpAny_bind (wpAny_loadPart D ?_))))
  obtain ⟨F1, N1⟩ : Fr h₀ L (hh.push { cls := .type "dict", data := .dict #[] }) m ∧ News h₀ L (hh.push { cls := .type "dict", data := .dict #[] }) ((hh.objs.size, { cls := .type "dict", data := .dict #[] }) :: (pre ++ (fs, fnObj fd none) :: post)) := ⟨F.push _, N.push F _⟩
  have lt : ∀ p ∈ (pre ++ (fs, fnObj fd none) :: post), p.1 < hh.objs.size := fun p hp => Heap.lt_size (N p hp).1
  have hfs : (hh.objs.size : Nat) ≠ fs := Nat.ne_of_gt (lt (fs, fnObj fd none) (by simp))
  obtain ⟨F2, N2⟩ := news_upd (pre := (hh.objs.size, _) :: pre) (f := fun o => { o with dict := some hh.objs.size }) (o' := fnObj fd (some hh.objs.size)) F1 N1 (by
    intro p hp
    rcases List.mem_cons.mp hp with rfl | hp
    · exact hfs
    · exact h1 p hp) h2 rfl rfl
  refine wpAny_bind (wpAny_alloc' (wpAny_bind (wpAny_update' (N1 (fs, fnObj fd none) (by simp)).1 ?_)))
  rw [show dictMade (fs, fnObj fd none).snd.cls fs hh.objs.size = pure (some hh.objs.size) from by kernel_rfl]
  refine wpAny_pure ?_
  show wpAny _ _ (Builtin.ObjectAttr.storeInDict hh.objs.size (.str "read" tk) "read" v) _ _ _
  unfold Builtin.ObjectAttr.storeInDict Builtin.ObjectAttr.newKeyGuard
  refine wpAny_bind (wpAny_pure (wpAny_bind ?_))
  have N2' := N2
  rw [List.cons_append] at N2'
  obtain ⟨F3, N3⟩ := news_upd (pre := []) (d := hh.objs.size) (f := Obj.putName "read" (PyData.keyHash w.params "read") (.str "read" (tk + 1)) v) (o' := dictOf [⟨PyData.keyHash w.params "read", .str "read" (tk + 1), v⟩] 1) F2 N2' (fun p hp => nomatch hp) (by
    intro p hp
    rcases List.mem_append.mp hp with hp | hp
    · exact Nat.ne_of_lt (lt p (by simp [hp]))
    · rcases List.mem_cons.mp hp with rfl | hp
      · exact hfs.symm
      · exact Nat.ne_of_lt (lt p (by simp [hp]))) rfl rfl
  have D2 := (N2' (hh.objs.size, { cls := .type "dict", data := .dict #[] }) (by simp)).1
  have D3 := (N3 _ (List.mem_append_right _ (.head _))).1
  unfold nsSet
  refine wpAny_bind (wpAny_bind (wpAny_askSetting (wpAny_pure (wpAny_bind (wpAny_mkText (wpAny_bind (wpAny_loadPart D2 ?_)))))))
  dsimp only
  have c : (!(#[] : Array DictEntry).any (·.key.isStr "read") && (#[] : Array DictEntry).any (·.refKey)) = false := by simp
  rw [aRefKeyMayBeTheName_at, c]
  refine wpAny_updatePart D2 ?_
  refine wpAny_bind (wpAny_lookBehind D3 (pastItsLine_dict (by rw [List.size_toArray, sizeLine_eq, List.length_singleton]; decide)) ?_)
  refine wpAny_pure (wpAny_pure (wpAny_pure ?_))
  have := h _ hh.objs.size (tk + 1) (tk + 2) F3 (by rw [hg]; exact N3) lt
  exact this
theorem getm_fn {fs d : Addr} {fd : FuncData} {od : Obj} {vr : Value} {pl : Sem Bool} {Q : Value × List Value → Shared → Prop}
    (h : Q (vr, []) { s with toks := s.toks + 1 })
    (D : s.heap.get? fs = some (fnObj fd (some d)) := by k_dflt (exact News.get (by k_asm) (by k_mem))) (D2 : s.heap.get? d = some od := by k_dflt (exact News.get (by k_asm) (by k_mem))) (hl : lookIn "read" od = some (some vr) := by k_dflt rfl) (hv : handedIn vr = true := by k_dflt rfl) :
    wpAny (model prog w) A (getMethod (.ref fs) "read" pl) Q E s := by
  obtain ⟨hh, ge, dr, tk, os⟩ := s
  dsimp only at D D2
  have T1 : Looks (model prog w) hh (typeOf (.ref fs)) (.type "function") := (Looks.ld D).andThen .now
  have hcan := PySem.F.canon_object_ga
  unfold getMethod specialOf
  refine wpAny_bind (wpAny_bind (T1.here ((Looks.of_pure slot_fn_ga.lookup).here ?_)))
  dsimp only
  rw [hcan, if_neg (by decide)]
  refine wpAny_bind (wpAny_bind (T1.here ((Looks.of_pure fn_no_getattr).here ?_)))
  refine wpAny_bind (wpAny_bind (T1.here ((Looks.of_pure fn_no_read).here ?_)))
  show wpAny _ _ (do return (← getAttr (.ref fs) "read", ([] : List Value))) _ _ _
  refine wpAny_bind ?_
  unfold getAttr getAttrBy
  refine wpAny_bind (wpAny_mkText (wpAny_holding (wpAny_bind (T1 _ _ _ _ (fun _ _ e => e) (wpAny_bind ((Looks.of_pure slot_fn_ga.lookup).here ?_))))))
  show wpAny _ _ (getAttrByItsOwn (.ref fs) (.str "read" tk) (.type "function") (.builtin "object.__getattribute__") true false) _ _ _
  unfold getAttrByItsOwn
  refine wpAny_bind (wpAny_pure (wpAny_bind ?_))
  refine wpAny_attempt (wpAny_holding ?_)
  show wpAny _ _ (boundAndCalled (.builtin "object.__getattribute__") (.ref fs) (.str "read" tk)) _ _ _
  unfold boundAndCalled
  rw [slot_fn_ga.bind]
  refine wpAny_bind (wpAny_pure ?_)
  have sub : Looks (model prog w) hh (isInstance (.ref fs) (.type "object")) true := T1.andThen (Looks.of_pure (by rw [isSubtype_type]; kernel_rfl))
  refine wpAny_call (codeAny_call_builtin slot_fn_ga.plain entry_oga (@check_slot (model prog w) _ _ _ "object.__getattribute__" "object" "__getattribute__" (.ref fs) [.str "read" tk] [] _ (by decide +kernel) (by decide +kernel) sub (oga_args (.ref fs) (.str "read" tk)) ?_))
  show wpAny _ _ (Builtin.«object.__getattribute__» ⟨[.ref fs, .str "read" tk], []⟩) _ _ _
  have own : Looks (model prog w) hh (Builtin.ObjectAttr.inOwnDict "read" (.ref fs)) (some vr) := by
    intro A Q E s k q
    refine wpAny_bind (wpAny_bind (wpAny_loadPart (k _ _ D) ?_))
    refine wpAny_bind (wpAny_loadPart (k _ _ D) ?_)
    refine wpAny_pure (a := some d) ?_
    refine wpAny_bind (wpAny_loadPart (k _ _ D2) ?_)
    rw [nsLook_of hl]; exact wpAny_pure q
  have fnd : Looks (model prog w) hh (Builtin.ObjectAttr.find (.ref fs) (.type "function") "read") (.value vr) :=
    (Looks.of_pure fn_no_read).andThen (Looks.now.andThen (Looks.now.andThen (own.andThen (Looks.tag .now))))
  unfold Builtin.«object.__getattribute__»
  refine wpAny_bind ?_
  rw [show slotArgs "__getattribute__" 1 ⟨[.ref fs, .str "read" tk], []⟩ = pure (.ref fs, [.str "read" tk]) from by kernel_rfl]
  refine wpAny_pure (wpAny_bind (wpAny_pure (wpAny_bind (T1 _ _ _ _ (fun _ _ e => e) (wpAny_bind (fnd _ _ _ _ (fun _ _ e => e) (wpAny_pure ?_)))))))
  show wpAny _ _ (handedOut vr) _ _ _
  rw [handedOut_of hv]
  exact wpAny_pure (wpAny_pure h)
end
end Mine

end
section
open PySem PySem.W PyProof.Rows PySem.Calls PySem.Spec
namespace Mine
section
variable {prog : Program} {w : World} {A A₀ : Around} {s : Shared} {KF : Frag} {L : Addr} {h₀ base : Heap} {m mg mb : Str → Option Value} {news : List (Addr × Obj)} {p : Program} {loose : List Str} {mean : ExcName → Option Value}
/-- a def that the call made is entered -/
theorem enter_nest {P : Params} {env : Env} {outer : List Env} {R : Result → Shared → Prop} {name qual : Str} {params : Arguments} {body : List Stmt} {scope : Scope} {cl : List (Str × Addr)} {doc pm ctv : Value} {c' : Addr} {f : Addr} {args : Args} {binds : List (Str × Value)}
    (h : ∀ g L' h₁ tk, Fr h₀ L g m → Fr g L' h₁ (fun y => binds.reverse.lookup y) → News g L' h₁ news → Below A base (env :: outer) g → (K P).In g → Top p loose mean mg mb g → Low L' news → @LT.lt Nat _ 252 L' →
      wpAny (model prog w) (A.deeper (envX qual scope L' f (.ref c') cl)) (execs body (envX qual scope L' f (.ref c') cl))
        (fun fl s' => LeaveK h₀ L m g R (match fl with | .ret v => v | _ => .none) s')
        (fun e s' => wpAny (model prog w) (A.deeper (envX qual scope L' f (.ref c') cl)) (leaving (envX qual scope L' f (.ref c') cl) e) (fun _ s'' => R (.error e) s'') (fun e' s'' => R (.error e') s'') s')
        { s with heap := h₁, toks := tk })
    (hA : A.frames = some (env :: outer) := by exact rfl) (hf : env.frame = some L := by exact rfl) (hke : env.scope.kind = .function := by first | assumption | exact rfl)
    (B : Below A₀ base outer h₀ := by k_asm) (F : Fr h₀ L s.heap m := by k_asm) (X₀ : (K P).In h₀ := by k_asm) (N : News h₀ L s.heap news := by k_asm) (T : Top p loose mean mg mb h₀ := by k_asm)
    (ho : (f, fnMade name qual params body scope cl doc pm c' ctv) ∈ news := by k_mem) (hcd : s.heap.CodeRec (.ref c') qual := by exact codeRec_news (by k_asm) (by k_mem) (by assumption) (by assumption)) (hroom : A.depth < recursionLimit := by first | exact roomy0 (by assumption) | ktr_room)
    (hbind : BindsTo s (fnX name qual params body scope cl .none .none doc pm none (.ref c') ctv) args binds := by walk_at "zz binds") (hloc : ∀ y ∈ binds, scope.names.lookup y.1 = some .local := by exact locs rfl)
    (hco : scope.isCoroutine = false := by exact rfl) (hgen : scope.isGenerator = false := by exact rfl) (hk : scope.kind = .function := by exact rfl)
    (hcell : ∀ x ∈ scope.names, x.2 ≠ .cell := by decide) : codeAny (model prog w) A (.call (.ref f) args) R s :=
  callX_plain (cl := cl) B F N T.nolimit hA hf hke (N _ ho).1 rfl hcd hroom hbind hloc (fun g L' h₁ FG F' N' B' st lo => h g L' h₁ _ FG F' N' B' (X₀.keeps st) (T.keeps st) lo (big_of (X₀.keeps st) F')) hcell hco hgen hk
end
/-- the law's reader, as its text makes it -/
noncomputable def ro : Stmt := nth (dBody (st 20)) 1
noncomputable def roA : { x : Arguments // x = dParams ro } := ⟨⟨_, _, _, _, _, _, _⟩, rfl⟩
noncomputable def roB : { x : List Stmt // x = dBody ro } := ⟨_ :: _, rfl⟩
noncomputable def roS : { x : Scope // x = dScope ro } := ⟨⟨_, _, _, _, _⟩, rfl⟩
/-- what the lexer is made of: where its parts lie, and the marks that do not matter -/
structure Lx where
  cp : Nat
  ca : Nat
  la : Nat
  c' : Nat
  fr : Nat
  fs : Nat
  ds : Nat
  dx : Nat
  x : Nat
  lp : Nat
  page : Str
  tpage : Tok
  ocp : Obj
  oca : Obj
  oc : Obj
  ocv : Array Value
  oct : Tok
  qual : Str
  doc : Value
  pm : Value
  ctv : Value
  fdl : FuncData
  tread : Tok
  k1 : Tok
  k2 : Tok
  k3 : Tok
  k4 : Tok
  tws : Tok
structure Lx.Ok (X : Lx) : Prop where
  ocp : X.ocp.data = .cell (some (.str X.page X.tpage))
  oca : X.oca.data = .cell (some (.ref X.la))
  oc : X.oc.data = .fields X.ocv
  ocv : X.ocv[1]? = some (.str X.qual X.oct)
  o1 : X.cp < X.ca
  o2 : X.ca < X.la
  o3 : X.la < X.c'
  o4 : X.c' < X.fr
  o5 : X.fr < X.fs
  o6 : X.fs < X.ds
  o7 : X.ds < X.dx
  o8 : X.dx < X.x
  o9 : X.x < X.lp
/-- the lexer's part of the ledger -/
noncomputable abbrev lexLed (w : World) (X : Lx) (pos line : Int) (tp tl : Tok) (push : Array Value) (np : Nat) (rest : Led) : Led :=
  (X.lp, listOf push np) :: (X.x, instObj 137 X.dx) ::
  (X.dx, dictOf [⟨PyData.keyHash w.params "lineno", .str "lineno" X.k1, .int line tl⟩, ⟨PyData.keyHash w.params "instream", .str "instream" X.k2, .ref X.fs⟩,
    ⟨PyData.keyHash w.params "whitespace", .str "whitespace" X.k3, .str "\n\t\r " X.tws⟩, ⟨PyData.keyHash w.params "pushback", .str "pushback" X.k4, .ref X.lp⟩] 4) ::
  (X.ds, dictOf [⟨PyData.keyHash w.params "read", .str "read" X.tread, .ref X.fr⟩] 1) :: (X.fs, fnObj X.fdl (some X.ds)) ::
  (X.fr, fnMade "_law_read_on" X.qual roA.1 roB.1 roS.1 [("page", X.cp), ("at", X.ca)] X.doc X.pm X.c' X.ctv) ::
  (X.c', X.oc) :: (X.la, listOf #[.int pos tp] 0) :: (X.ca, X.oca) :: (X.cp, X.ocp) :: rest
/-- a ledger with one entry ahead of a part, and behind it -/
theorem mid_in {P R : Led} {q p : Addr × Obj} (h : p ∈ P ++ q :: R) : p ∈ q :: (P ++ R) :=
  (List.mem_append.mp h).elim (fun h => .tail _ (List.mem_append_left _ h)) fun h => (List.mem_cons.mp h).elim (fun e => e ▸ .head _) fun h => .tail _ (List.mem_append_right _ h)
theorem mid_out {P R : Led} {q p : Addr × Obj} (h : p ∈ q :: (P ++ R)) : p ∈ P ++ q :: R :=
  (List.mem_cons.mp h).elim (fun e => e ▸ List.mem_append_right _ (.head _)) fun h => (List.mem_append.mp h).elim (fun h => List.mem_append_left _ h) fun h => List.mem_append_right _ (.tail _ h)
theorem mid_skip {P R : Led} {q p : Addr × Obj} (h : p ∈ P ++ R) : p ∈ P ++ q :: R := mid_out (.tail _ h)
theorem two_in {P R : Led} {a b p : Addr × Obj} (h : p ∈ P ++ a :: b :: R) : p ∈ b :: (P ++ a :: R) :=
  (List.mem_cons.mp (mid_in h)).elim (fun e => e ▸ .tail _ (mid_out (.head _))) fun h => (List.mem_cons.mp (mid_in h)).elim (fun e => e ▸ .head _) fun h => .tail _ (mid_skip h)
theorem three_in {P R : Led} {a b c p : Addr × Obj} (h : p ∈ P ++ a :: b :: c :: R) : p ∈ c :: (P ++ a :: b :: R) :=
  (List.mem_cons.mp (mid_in h)).elim (fun e => e ▸ .tail _ (mid_out (.head _))) fun h => (List.mem_cons.mp (two_in h)).elim (fun e => e ▸ .head _) fun h => .tail _ (mid_skip h)
theorem lex_in {w : World} {X : Lx} {pos line : Int} {tp tl : Tok} {push : Array Value} {np : Nat} {rest : Led} {q p : Addr × Obj} (h : p ∈ lexLed w X pos line tp tl push np (q :: rest)) : p ∈ q :: lexLed w X pos line tp tl push np rest :=
  mid_in (P := lexLed w X pos line tp tl push np []) h
theorem lex_out {w : World} {X : Lx} {pos line : Int} {tp tl : Tok} {push : Array Value} {np : Nat} {rest : Led} {q p : Addr × Obj} (h : p ∈ q :: lexLed w X pos line tp tl push np rest) : p ∈ lexLed w X pos line tp tl push np (q :: rest) :=
  mid_out (P := lexLed w X pos line tp tl push np []) h
theorem lex_sub {w : World} {X : Lx} {pos line : Int} {tp tl : Tok} {push : Array Value} {np : Nat} {rest : Led} {p : Addr × Obj} (h : p ∈ rest) : p ∈ lexLed w X pos line tp tl push np rest :=
  List.mem_append_right (lexLed w X pos line tp tl push np []) h
/-- the lexer's part holds the same addresses, wherever it has read to -/
theorem lex_same {w : World} {X : Lx} {pos line pos' line' : Int} {tp tl tp' tl' : Tok} {push push' : Array Value} {np np' : Nat} {rest : Led} {p : Addr × Obj} (h : p ∈ lexLed w X pos line tp tl push np rest) : ∃ o, (p.1, o) ∈ lexLed w X pos' line' tp' tl' push' np' rest := by
  have e : (lexLed w X pos line tp tl push np rest).map (·.1) = (lexLed w X pos' line' tp' tl' push' np' rest).map (·.1) := rfl
  have := List.mem_map_of_mem (f := (·.1)) h
  rw [e] at this
  obtain ⟨q, hq, hqp⟩ := List.mem_map.mp this
  exact ⟨q.2, hqp ▸ hq⟩
/-- the rest of the ledger lies apart from what a reading turns -/
noncomputable def Apart (X : Lx) (rest : Led) : Prop := (∀ p ∈ rest, p.1 ≠ X.la) ∧ (∀ p ∈ rest, p.1 ≠ X.dx) ∧ ∀ p ∈ rest, p.1 ≠ X.lp
theorem Apart.add {X : Lx} {rest : Led} {q : Addr × Obj} (h : Apart X rest) (h1 : q.1 ≠ X.la) (h2 : q.1 ≠ X.dx) (h3 : q.1 ≠ X.lp) : Apart X (q :: rest) :=
  ⟨List.forall_mem_cons.mpr ⟨h1, h.1⟩, List.forall_mem_cons.mpr ⟨h2, h.2.1⟩, List.forall_mem_cons.mpr ⟨h3, h.2.2⟩⟩
theorem Lx.Ok.under {X : Lx} (h : X.Ok) : @LT.lt Nat _ X.cp X.lp ∧ @LT.lt Nat _ X.ca X.lp ∧ @LT.lt Nat _ X.la X.lp ∧ @LT.lt Nat _ X.c' X.lp ∧ @LT.lt Nat _ X.fr X.lp ∧ @LT.lt Nat _ X.fs X.lp ∧ @LT.lt Nat _ X.ds X.lp ∧ @LT.lt Nat _ X.dx X.lp ∧ @LT.lt Nat _ X.x X.lp :=
  have a8 := Nat.lt_trans h.o8 h.o9
  have a7 := Nat.lt_trans h.o7 a8
  have a6 := Nat.lt_trans h.o6 a7
  have a5 := Nat.lt_trans h.o5 a6
  have a4 := Nat.lt_trans h.o4 a5
  have a3 := Nat.lt_trans h.o3 a4
  have a2 := Nat.lt_trans h.o2 a3
  ⟨Nat.lt_trans h.o1 a2, a2, a3, a4, a5, a6, a7, a8, h.o9⟩
theorem Lx.Ok.over {X : Lx} (h : X.Ok) {b : Nat} (a0 : @LT.lt Nat _ b X.cp) : @LT.lt Nat _ b X.ca ∧ @LT.lt Nat _ b X.la ∧ @LT.lt Nat _ b X.c' ∧ @LT.lt Nat _ b X.fr ∧ @LT.lt Nat _ b X.fs ∧ @LT.lt Nat _ b X.ds ∧ @LT.lt Nat _ b X.dx ∧ @LT.lt Nat _ b X.x ∧ @LT.lt Nat _ b X.lp :=
  have a1 := Nat.lt_trans a0 h.o1
  have a2 := Nat.lt_trans a1 h.o2
  have a3 := Nat.lt_trans a2 h.o3
  have a4 := Nat.lt_trans a3 h.o4
  have a5 := Nat.lt_trans a4 h.o5
  have a6 := Nat.lt_trans a5 h.o6
  have a7 := Nat.lt_trans a6 h.o7
  have a8 := Nat.lt_trans a7 h.o8
  ⟨a1, a2, a3, a4, a5, a6, a7, a8, Nat.lt_trans a8 h.o9⟩
theorem Lx.Ok.lt {X : Lx} (h : X.Ok) : @LT.lt Nat _ X.la X.lp ∧ @LT.lt Nat _ X.dx X.lp := ⟨h.under.2.2.1, h.under.2.2.2.2.2.2.2.1⟩
theorem Apart.up {X : Lx} (hX : X.Ok) {rest : Led} {q : Addr × Obj} (h : Apart X rest) (hq : @LT.lt Nat _ X.lp q.1) : Apart X (q :: rest) :=
  h.add (Nat.ne_of_gt (Nat.lt_trans hX.lt.1 hq)) (Nat.ne_of_gt (Nat.lt_trans hX.lt.2 hq)) (Nat.ne_of_gt hq)
noncomputable def bump (ch : Str) (line : Int) : Int := if (ch == Str.ofString "\n") = true then line + 1 else line
noncomputable def IsRead (w : World) (X : Lx) (ch : Str) (pos line : Int) (push : Array Value) (np : Nat) (rest : Led) (v : Value) (n' : Led) : Prop :=
  (∃ t, v = .str ch t) ∧ ∃ tp tl, n' = lexLed w X pos line tp tl push np rest
end Mine

end
section
open PySem PySem.W PyProof.Rows PySem.Calls PySem.Spec
namespace Mine
theorem slot_ci_next : Slot "callable_iterator" "__next__" "callable_iterator.__next__" := .of (owner := "callable_iterator") (n := "__next__") (by rw [typeLookup_type, builtinLookup_eq_fast]; kernel_rfl) (by decide +kernel) (by decide +kernel) (by decide +kernel)
    (by first | exact .inl (by decide +kernel) | exact .inr (by decide +kernel)) (by rw [isSubtype_type]; kernel_rfl)
theorem entry_ci_next : entryFor table "callable_iterator.__next__" = some Builtin.«callable_iterator.__next__» := entryFor_of_tree (by kernel_rfl)
theorem args_ci_next (a : Value) : argsOk "callable_iterator.__next__" ⟨[a], []⟩ := by unfold argsOk; kernel_rfl
/-- an iterator over a callable -/
noncomputable abbrev ciObj (f snt d : Value) : Obj := { cls := .type "callable_iterator", data := .fields #[f, snt, d] }
section
variable {prog : Program} {w : World} {A : Around} {E : Value → Shared → Prop} {s : Shared} {it mo f : Nat} {self : Value} {ts : Tok} {of : Obj} {fd : FuncData} {Q : Option Value → Shared → Prop}
theorem stop_raised {α : Type} {Q : α → Shared → Prop} {E : Value → Shared → Prop} (hh : A.handled = none)
    (h : ∀ h' e, (∀ b o, s.heap.get? b = some o → h'.get? b = some o) → (∃ o, h'.get? e = some o ∧ o.cls = .type "StopIteration") → E (.ref e) { s with heap := h' }) :
    wpAny (model prog w) A (Builtin.SmallTypes.stopIteration : Sem α) Q E s := by
  show wpAny _ _ (newExc (.type "StopIteration") [] >>= _) _ _ _
  refine wpAny_bind ?_
  simp only [newExc, newTuple]
  refine wpAny_bind (wpAny_newObj_type ?_ (by size_fits))
  refine wpAny_bind (m := firstArgMember _ _) (wpAny_of_eq (a := Value.none) (by first | rfl | (simp only [firstArgMember]; rfl)) ?_)
  refine wpAny_newObj_type ?_ (by size_fits)
  simp only [raiseNew]
  refine wpAny_bind (wpAny_handled ?_)
  rw [hh]
  refine wpAny_bind (wpAny_pure (wpAny_throw ?_))
  exact h _ _ (fun b o e => Heap.get?_push_of_some _ (Heap.get?_push_of_some _ e)) ⟨_, Heap.get?_push_size _ rfl, rfl⟩
theorem stop_caught {e : Addr} (he : ∃ o, s.heap.get? e = some o ∧ o.cls = .type "StopIteration") (h : Q none s) :
    wpAny (model prog w) A (do
      let b ← isInstance (.ref e) (Value.type "StopIteration")
      if b = true then pure none else throw (.ref e)) Q E s := by
  obtain ⟨o, e1, e2⟩ := he
  refine wpAny_bind (wpAny_isInstance (T := "StopIteration") (b := true) ⟨o, e1, e2⟩ isSubtype_stop ?_)
  exact wpAny_pure h
theorem next_ci_done (hh : A.handled = none) (hit : s.heap.get? it = some (ciObj .none .none (.bool true)))
    (h : ∀ h', (∀ b o, s.heap.get? b = some o → h'.get? b = some o) → Q none { s with heap := h' }) : wpAny (model prog w) A (pyNext (.ref it)) Q E s := by
  have hT : s.TypeIs (.ref it) "callable_iterator" := ⟨_, hit, rfl⟩
  unfold pyNext
  refine wpAny_bind (wpAny_attempt (wpAny_callSpecial?_slot (name := Str.ofString "__next__") hT slot_ci_next
    (wpAny_call_entry slot_ci_next hT entry_ci_next ?_ (args_ci_next _))))
  unfold Builtin.«callable_iterator.__next__»
  refine wpAny_bind ?_
  rw [show slotArgs "__next__" 0 ⟨[Value.ref it], []⟩ = pure (.ref it, []) from by kernel_rfl]
  refine wpAny_pure (wpAny_bind (wpAny_field hit rfl (x := .bool true) rfl ?_))
  refine wpAny_bind (wpAny_rule (wpAny_bind (stop_raised hh fun h' e k he => ?_)))
  exact stop_caught he (h h' k)
theorem wpAny_callBorrowed {M : Model} {Q : Value → Shared → Prop} {f : Value} {pos : List Value}
    (hc : codeAny M A (.call f ⟨pos, []⟩) (fun r s' => match r with | .ok (.ret v) => Q v s' | .ok _ => False | .error e => E e s') s) : wpAny M A (callBorrowed f pos) Q E s := by
  intro Γ p hΓ
  unfold callBorrowed
  rw [Sem.wp_call]
  have h := hc (Γ.enter (.call f ⟨pos, []⟩) none p) p rfl (hΓ.enter (.call f ⟨pos, []⟩) none p (by intro x; cases x))
  exact wpCode_mono (fun r s' h' => by
    rcases r with e | (v | _ | _ | _) <;> first | (simp only [Sem.wp_pure, Sem.wp_raise]; exact h') | exact h'.elim | (simp only [Sem.wp]; exact h')) h
theorem next_ci (hh : A.handled = none) (hit : s.heap.get? it = some (ciObj (.ref mo) (.str ⟨#[]⟩ ts) (.bool false))) (hmo : s.heap.get? mo = some (methodObj (.ref f) self)) (hf : s.heap.get? f = some of) (hof : of.data = .func fd)
    (C : codeAny (model prog w) A.in1 (.call (.ref f) ⟨[self], []⟩) (fun r s' => ∃ ch t, r = .ok (.ret (.str ch t)) ∧ s'.heap.get? it = some (ciObj (.ref mo) (.str ⟨#[]⟩ ts) (.bool false)) ∧ s'.heap.get? mo = some (methodObj (.ref f) self) ∧ s'.heap.get? f = some of ∧
      ((¬ ch = ⟨#[]⟩ → Q (some (.str ch t)) s') ∧ (ch = ⟨#[]⟩ → ∀ h', (∀ b o, b ≠ it → s'.heap.get? b = some o → h'.get? b = some o) → h'.get? it = some (ciObj .none .none (.bool true)) → Q none { s' with heap := h' }))) s) :
    wpAny (model prog w) A (pyNext (.ref it)) Q E s := by
  have hT : s.TypeIs (.ref it) "callable_iterator" := ⟨_, hit, rfl⟩
  unfold pyNext
  refine wpAny_bind (wpAny_attempt (wpAny_callSpecial?_slot (name := Str.ofString "__next__") hT slot_ci_next
    (wpAny_call_entry slot_ci_next hT entry_ci_next ?_ (args_ci_next _))))
  unfold Builtin.«callable_iterator.__next__»
  refine wpAny_bind ?_
  rw [show slotArgs "__next__" 0 ⟨[Value.ref it], []⟩ = pure (.ref it, []) from by kernel_rfl]
  refine wpAny_pure (wpAny_bind (wpAny_field hit rfl (x := .bool false) rfl ?_))
  refine wpAny_bind (wpAny_field hit rfl (x := .ref mo) rfl ?_)
  have bor : ∀ {h : Heap}, h.get? mo = some (methodObj (.ref f) self) → h.get? f = some of → Looks (model prog w) h (borrowsExactly (.ref mo)) true := fun e1 e2 A Q E s k q =>
    wpAny_bind (wpAny_load (k _ _ e1) (wpAny_bind (wpAny_load (k _ _ e2) (by rw [hof]; exact wpAny_pure q))))
  refine wpAny_bind (wpAny_attempt (wpAny_bind ((bor hmo hf).here ?_)))
  show wpAny _ _ (callBorrowed (.ref mo)) _ _ _
  refine wpAny_callBorrowed (method_call hmo (codeAny_mono C ?_))
  rintro r s' ⟨ch, t, rfl, e1, e2, e3, g1, g2⟩
  dsimp only
  refine wpAny_bind (wpAny_field e1 rfl (x := .bool false) rfl ?_)
  refine wpAny_bind (wpAny_field e1 rfl (x := .str ⟨#[]⟩ ts) rfl ?_)
  refine wpAny_bind (wpAny_holding (eqBool_str ?_))
  by_cases hc : ch = ⟨#[]⟩
  · subst hc
    rw [show ((⟨#[]⟩ : Str) == ⟨#[]⟩) = true from by decide]
    refine wpAny_bind (wpAny_rule ?_)
    show wpAny _ _ ((do
      let old ← field (.ref it) 0
      slotLetsGo "callable_iterator.__next__" old (fun | .builtin "callable_iterator.__next__" x => x.pos.head? == some (.ref it) | _ => false)
      setField (.ref it) 0 .none; setField (.ref it) 1 .none; setField (.ref it) 2 (.bool true)) >>= _) _ _ _
    refine wpAny_bind (wpAny_bind (wpAny_field e1 rfl (x := .ref mo) rfl (wpAny_bind ?_)))
    unfold slotLetsGo
    refine wpAny_bind ((bor e2 e3).here (wpAny_pure ?_))
    refine wpAny_bind (wpAny_setField_rec e1 (by simp) fun h1 q1 k1 => ?_)
    refine wpAny_bind (wpAny_setField_rec q1 (by simp) fun h2 q2 k2 => ?_)
    refine wpAny_setField_rec q2 (by simp) fun h3 q3 k3 => ?_
    refine stop_raised hh fun h4 e k he => ?_
    refine stop_caught he ?_
    refine g2 rfl h4 (fun b o hb q => k _ _ ?_) (k _ _ q3)
    exact ((k3.2 b hb).trans ((k2.2 b hb).trans (k1.2 b hb))).trans q
  · rw [show ((⟨#[]⟩ : Str) == ch) = false from beq_eq_false_iff_ne.mpr fun e => hc e.symm]
    exact wpAny_bind (wpAny_pure (wpAny_pure ⟨_, rfl, wpAny_pure (g1 hc)⟩))
theorem method_called : ∃ i, typeLookup (.type "method") "__call__" = pure (some (.builtin i)) := ⟨"method.__call__", by rw [typeLookup_type, builtinLookup_eq_fast]; kernel_rfl⟩
theorem entry_iter : entryFor table "iter" = some Builtin.«iter» := entryFor_of_tree (by kernel_rfl)
theorem args_iter (a b : Value) : argsOk "iter" ⟨[a, b], []⟩ := by unfold argsOk; kernel_rfl
theorem iter_ci {L : Addr} {h₀ : Heap} {m : Str → Option Value} {news : List (Addr × Obj)} {fv snt : Value} {Q : Value → Shared → Prop}
    (h : ∀ h' it, Fr h₀ L h' m → News h₀ L h' ((it, ciObj (.ref mo) snt (.bool false)) :: news) → (∀ p ∈ news, p.1 < it) → Q (.ref it) { s with heap := h' })
    (F : Fr h₀ L s.heap m := by k_dflt k_asm) (N : News h₀ L s.heap news := by k_dflt k_asm) (hm : (mo, methodObj fv self) ∈ news := by k_dflt k_mem) :
    wpAny (model prog w) A (call (.builtin "iter") [.ref mo, snt]) Q E s := by
  obtain ⟨hh, ge, dr, tk, os⟩ := s
  dsimp only at F N
  have T1 : Looks (model prog w) hh (typeOf (.ref mo)) (.type "method") := (Looks.ld (N _ hm).1).andThen .now
  refine call_function_entry (by decide +kernel) (by decide +kernel) entry_iter (args_iter _ _) ?_
  unfold Builtin.«iter»
  refine wpAny_bind ?_
  rw [show someArgs "iter" 1 2 ⟨[.ref mo, snt], []⟩ = pure [.ref mo, snt] from by kernel_rfl]
  obtain ⟨i, hi⟩ := method_called
  refine wpAny_pure (wpAny_bind (wpAny_bind (T1.here ((Looks.of_pure hi).here ?_))))
  refine wpAny_bind (wpAny_rule (wpAny_bind (wpAny_newObj_type ?_ (by size_fits))))
  refine wpAny_pure ⟨_, rfl, ?_⟩
  exact h _ _ (F.push _) (N.push F _) (fun p hp => Heap.lt_size (N p hp).1)
end
end Mine

end
section
open PySem PySem.W PyProof.Rows PySem.Calls PySem.Spec
namespace Mine
theorem all_low {d : Nat} : ∀ {l : List (Addr × Obj)}, AllLt d l → ∀ p ∈ l, p.1 < d
  | [], _, _, hp => nomatch hp
  | _ :: _, h, _, hp => by
    rcases List.mem_cons.mp hp with rfl | hp
    · exact h.1
    · exact all_low h.2 _ hp
theorem andL {a b : Prop} (h : a ∧ b := by walk_at "zz an") : a := h.1
theorem ltT {a b c : Nat} (h : a < b := by with_reducible assumption) (g : b < c := by walk_at "zz lt") : a < c := Nat.lt_trans h g
theorem neL {a b : Nat} (h : a < b := by walk_at "zz lt") : a ≠ b := Nat.ne_of_lt h
theorem neG {a b : Nat} (h : b < a := by walk_at "zz lt") : a ≠ b := Nat.ne_of_gt h
theorem all_ne {d : Nat} {l : List (Addr × Obj)} (h : AllLt d l := by walk_at "zz an") : ∀ p ∈ l, p.1 ≠ d := fun p hp => Nat.ne_of_lt (all_low h p hp)
section
variable {M : Model} {A : Around} {E Q : Value → Shared → Prop} {s : Shared} {name : Str} {scope : Scope} {L a : Addr} {cd v : Value} {h₀ : Heap} {m : Str → Option Value} {x : Str} {pos : Pos}
theorem ld_e (h : Q v s) (F : Fr h₀ L s.heap m := by k_dflt k_asm) (hv : m x = some v := by walk_at "zz v") (hk : scope.kind = .function := by kernel_rfl!) (hl : (envOf name scope L a cd).kindOf x = some .local := by kernel_rfl!) (hd : (x == ("__debug__" : Str)) = false := by decide +kernel) :
    wpAny M A (eval (.Name x pos) (envOf name scope L a cd)) Q E s := ld F hv h hk hl hd
theorem ldn_e (h : Q v s) (F : Fr h₀ L s.heap m := by k_dflt k_asm) (hv : m x = some v := by walk_at "zz v") (hk : scope.kind = .function := by kernel_rfl!) (hl : (envOf name scope L a cd).kindOf x = some .local := by kernel_rfl!) :
    wpAny M A (loadName (envOf name scope L a cd) x) Q E s := ldn F hv h hk hl
theorem ldc_e (h : Q v s) (F : Fr h₀ L s.heap m := by k_dflt k_asm) (hv : m x = some v := by walk_at "zz v") (hk : scope.kind = .function := by kernel_rfl!) (hl : (envOfC name scope L a cd).kindOf x = some .local := by kernel_rfl!) (hd : (x == ("__debug__" : Str)) = false := by decide +kernel) :
    wpAny M A (eval (.Name x pos) (envOfC name scope L a cd)) Q E s := ldLoc F hv h hk hl hd
theorem ldnc_e (h : Q v s) (F : Fr h₀ L s.heap m := by k_dflt k_asm) (hv : m x = some v := by walk_at "zz v") (hk : scope.kind = .function := by kernel_rfl!) (hl : (envOfC name scope L a cd).kindOf x = some .local := by kernel_rfl!) :
    wpAny M A (loadName (envOfC name scope L a cd) x) Q E s := wpAny_loadName_local hk hl F.ns hv h
end
/-! the lexer's plain law: what is read off a list of signs -/
noncomputable def isWs (c : Nat) : Bool := c == 10 || c == 9 || c == 13 || c == 32
noncomputable def plainTok : List Nat → List Nat → List Nat × List Nat
  | tok, [] => (tok, [])
  | tok, c :: r => if isWs c then (tok, r) else if c = 92 then (match r with | [] => (tok, []) | d :: r' => plainTok (tok ++ [d]) r') else plainTok (tok ++ [c]) r
noncomputable def quotTok : List Nat → List Nat → List Nat × List Nat
  | tok, [] => (tok, [])
  | tok, c :: r => if c = 34 then (tok, r) else if c = 92 then (match r with | [] => (tok, []) | d :: r' => quotTok (tok ++ [d]) r') else quotTok (tok ++ [c]) r
noncomputable def token : List Nat → List Nat × List Nat
  | [] => ([], [])
  | c :: r => if isWs c then token r else if c = 34 then quotTok [] r else plainTok [] (c :: r)
noncomputable def chS : List Nat → Str
  | [] => ⟨#[]⟩
  | c :: _ => ⟨#[c]⟩
noncomputable def Lx.cs (X : Lx) : List Nat := X.page.cps.toList
noncomputable def Lx.posOf (X : Lx) (rem : List Nat) : Int := (X.cs.length - rem.length : Nat)
noncomputable def Lx.lineOf (X : Lx) (rem : List Nat) : Int := 1 + ((X.cs.take (X.cs.length - rem.length)).count 10 : Nat)
theorem slice_at {x : Str} {pre r : List Nat} {c : Nat} (h : x.cps.toList = pre ++ c :: r) : Txt.slice x (some (pre.length : Int)) (some ((pre.length : Int) + 1)) = ⟨#[c]⟩ := by
  have hl : x.cps.toList.length = pre.length + r.length + 1 := by rw [h]; simp; omega
  have e := slice_closes (x := x) (i := pre.length) (j := (pre.length : Int) + 1) ⟨by omega, by omega, by omega⟩
  rw [beq_iff_eq] at e
  rw [e, h]
  simp [show ((pre.length : Int) + 1 - pre.length).toNat = 1 by omega]
theorem slice_end {x : Str} {n : Int} (h : n = x.cps.toList.length) : Txt.slice x (some n) (some (n + 1)) = ⟨#[]⟩ := by
  subst h
  have e : Builtin.Str.strSliceIndices (some (x.cps.toList.length : Int)) (some ((x.cps.toList.length : Int) + 1)) 1 x.length = [] := by
    unfold Builtin.Str.strSliceIndices sliceRange
    have hl : x.length = x.cps.toList.length := by simp [Str.length]
    rw [hl]
    simp only [show (1 : Int) > 0 by decide, if_true]
    generalize x.cps.toList.length = n
    rw [if_neg (show ¬ ((n : Int) < 0) by omega), if_neg (show ¬ ((n : Int) + 1 < 0) by omega), if_neg (show ¬ (max 0 (min (n : Int) n) < max 0 (min ((n : Int) + 1) n)) by rw [Int.min_self, Int.min_eq_right (Int.le_add_one (Int.le_refl _))]; exact Int.lt_irrefl _)]
    simp
  unfold Txt.slice
  rw [e]
  by_cases h0 : x.length = 0
  · have : x.cps = #[] := Array.eq_empty_of_size_eq_zero h0
    obtain ⟨xc⟩ := x
    simp only at this
    subst this
    simp
  · rw [if_neg (by simp; exact fun q => h0 q.symm)]
    simp
theorem chS_nl (c : Nat) (r : List Nat) : (chS (c :: r) == Str.ofString "\n") = (c == 10) := by
  rw [show Str.ofString "\n" = ⟨#[10]⟩ from by decide +kernel]
  show ((⟨#[c]⟩ : Str) == ⟨#[10]⟩) = _
  by_cases h : c = 10
  · subst h; decide
  · rw [beq_eq_false_iff_ne.mpr h, beq_eq_false_iff_ne]
    intro e
    injection e with e
    exact h (by simpa using e)
/-! room for calls: what a caller has is more than what he needs -/
theorem roomy {x n k c : Nat} (h : x + n < c := by with_reducible assumption) (e : Nat.ble k n = true := by rfl) : x + k < c := Nat.lt_of_le_of_lt (Nat.add_le_add_left (Nat.le_of_ble_eq_true e) x) h
theorem roomy1 {x n a b c : Nat} (h : x + n < c := by with_reducible assumption) (e : Nat.ble (a + b) n = true := by rfl) : x + a + b < c := Nat.add_assoc x a b ▸ roomy h e
theorem roomy2 {x n a b d c : Nat} (h : x + n < c := by with_reducible assumption) (e : Nat.ble (a + b + d) n = true := by rfl) : x + a + b + d < c := Nat.add_assoc x a b ▸ roomy1 h e
/-! rules whose states are written out -/
section
variable {prog : Program} {w : World} {A : Around} {E : Value → Shared → Prop} {hh : Heap} {gg : Array GenState} {dd : Drawn} {tk : Nat} {oo : OsState} {a b : Int} {t u : Tok} {Q : Value → Shared → Prop}
theorem add_e (h : Q (.int (a + b) tk) ⟨hh, gg, dd, tk + 1, oo⟩) : wpAny (model prog w) A (binaryOp .Add (.int a t) (.int b u)) Q E ⟨hh, gg, dd, tk, oo⟩ := add_int h
theorem sub_e (h : Q (.int (a - b) tk) ⟨hh, gg, dd, tk + 1, oo⟩) : wpAny (model prog w) A (binaryOp .Sub (.int a t) (.int b u)) Q E ⟨hh, gg, dd, tk, oo⟩ := sub_int h
theorem mul_e (h : Q (.int (a * b) tk) ⟨hh, gg, dd, tk + 1, oo⟩) (hm : IntMulOk a b) : wpAny (model prog w) A (binaryOp .Mult (.int a t) (.int b u)) Q E ⟨hh, gg, dd, tk, oo⟩ := mul_int h hm
theorem iadd_e (h : Q (.int (a + b) tk) ⟨hh, gg, dd, tk + 1, oo⟩) : wpAny (model prog w) A (inplaceOp .Add (.int a t) (.int b u)) Q E ⟨hh, gg, dd, tk, oo⟩ := iadd_int h
theorem const_e {M : Model} {env : Env} {i : Int} {k : Nat} {pos : Pos} (h : Q (.int i tk) ⟨hh, gg, dd, tk + 1, oo⟩) : wpAny M A (eval (.Constant (.int i) k pos) env) Q E ⟨hh, gg, dd, tk, oo⟩ := wpAny_Constant_int h
theorem store_e {M : Model} {h₀ : Heap} {L a : Addr} {m : Str → Option Value} {news : List (Addr × Obj)} {cn : Str} {cs : Scope} {cd : Value} {cl : List (Str × Addr)} {x : Str} {v : Value} {Q : Unit → Shared → Prop}
    (h : ∀ h' tk', Fr h₀ L h' (fun y => if y = x then some v else m y) → News h₀ L h' news → Q () ⟨h', gg, dd, tk', oo⟩)
    (F : Fr h₀ L hh m := by k_asm) (N : News h₀ L hh news := by k_asm) (hk : cs.kind = .function := by rfl) (hx : (envX cn cs L a cd cl).kindOf x = some .local := by rfl) : wpAny M A (storeName (envX cn cs L a cd cl) x v) Q E ⟨hh, gg, dd, tk, oo⟩ :=
  storeX_L (s := ⟨hh, gg, dd, tk, oo⟩) F N (fun h' F' N' => h h' _ F' N') hk hx
end
section
variable {prog : Program} {w : World} {A A₀ : Around} {E : Value → Shared → Prop} {s : Shared} {KF : Frag} {L : Addr} {h₀ base : Heap} {m mg mb : Str → Option Value} {news : List (Addr × Obj)} {p : Program} {loose : List Str} {mean : ExcName → Option Value}
/-- enter_plain, its conditions looked up -/
theorem enter_auto {P : Params} {env : Env} {outer : List Env} {R : Result → Shared → Prop} {name qual : Str} {params : Arguments} {body : List Stmt} {scope : Scope} {dV kV doc pm cdv ct oc : Value} {an od : Option Addr} {osl : Array (Option Value)} {f : Addr} {args : Args} {binds : List (Str × Value)}
    (h : ∀ g L' h₁ tk, Fr h₀ L g m → Fr g L' h₁ (fun y => binds.reverse.lookup y) → News g L' h₁ news → Below A base (env :: outer) g → (K P).In g → Top p loose mean mg mb g → Low L' news → @LT.lt Nat _ 252 L' →
      wpAny (model prog w) (A.deeper (envOf qual scope L' f cdv)) (execs body (envOf qual scope L' f cdv))
        (fun fl s' => LeaveK h₀ L m g R (match fl with | .ret v => v | _ => .none) s')
        (fun e s' => wpAny (model prog w) (A.deeper (envOf qual scope L' f cdv)) (leaving (envOf qual scope L' f cdv) e) (fun _ s'' => R (.error e) s'') (fun e' s'' => R (.error e') s'') s')
        { s with heap := h₁, toks := tk })
    (hA : A.frames = some (env :: outer) := by exact rfl) (hf : env.frame = some L := by exact rfl) (hke : env.scope.kind = .function := by first | assumption | exact rfl)
    (B : Below A₀ base outer h₀ := by k_asm) (F : Fr h₀ L s.heap m := by k_asm) (X₀ : (K P).In h₀ := by k_asm) (N : News h₀ L s.heap news := by k_asm) (T : Top p loose mean mg mb h₀ := by k_asm)
    (ho : (K P).lookup f = some ⟨oc, od, .func (fnOf name qual params body scope dV kV doc pm an cdv ct), osl⟩ := by k_is) (hcd : codeIn (K P) cdv qual = true := by k_is) (hroom : A.depth < recursionLimit := by first | exact roomy0 (by assumption) | ktr_room)
    (hbind : BindsTo s (fnOf name qual params body scope dV kV doc pm an cdv ct) args binds := by walk_at "zz binds") (hcell : ∀ x ∈ scope.names, x.2 ≠ .cell := by decide) (hloc : ∀ y ∈ binds, scope.names.lookup y.1 = some .local := by exact locs rfl)
    (hco : scope.isCoroutine = false := by exact rfl) (hgen : scope.isGenerator = false := by exact rfl) (hk : scope.kind = .function := by exact rfl) : codeAny (model prog w) A (.call (.ref f) args) R s :=
  enter_plain B F X₀ N T hA hf hke ho hcd hroom hbind hloc (fun g L' h₁ tk FG F' N' B' X' T' lo => h g L' h₁ tk FG F' N' B' X' T' lo (big_of X' F')) hco hgen hk hcell
/-- code_defC, its conditions looked up -/
theorem cells_e {P : Params} {env : Env} {outer : List Env} {R : Result → Shared → Prop} {name qual : Str} {params : Arguments} {body : List Stmt} {scope : Scope} {dV kV doc pm cdv ct oc : Value} {an od : Option Addr} {osl : Array (Option Value)} {f : Addr} {args : Args} {binds : List (Str × Value)}
    (h : ∀ g L' h₁ tk cells, Fr h₀ L g m → Fr g L' h₁ (bindL (envOfC qual scope L' f cdv).kindOf binds fun _ => none) → News g L' h₁ (cells ++ news) →
      CellsAre (bindC (envOfC qual scope L' f cdv).kindOf binds fun _ => none) (cellsFrom (L' + 1) scope.names []) cells → Below A base (env :: outer) g → (K P).In g → Top p loose mean mg mb g → Low L' news → @LT.lt Nat _ 252 L' →
      wpAny (model prog w) (A.deeper (envOfC qual scope L' f cdv)) (execs body (envOfC qual scope L' f cdv))
        (fun fl s' => LeaveK h₀ L m g R (match fl with | .ret v => v | _ => .none) s')
        (fun e s' => wpAny (model prog w) (A.deeper (envOfC qual scope L' f cdv)) (leaving (envOfC qual scope L' f cdv) e) (fun _ s'' => R (.error e) s'') (fun e' s'' => R (.error e') s'') s')
        { s with heap := h₁, toks := tk })
    (hA : A.frames = some (env :: outer) := by exact rfl) (hf : env.frame = some L := by exact rfl) (hke : env.scope.kind = .function := by first | assumption | exact rfl)
    (B : Below A₀ base outer h₀ := by k_asm) (F : Fr h₀ L s.heap m := by k_asm) (X₀ : (K P).In h₀ := by k_asm) (N : News h₀ L s.heap news := by k_asm) (T : Top p loose mean mg mb h₀ := by k_asm)
    (ho : (K P).lookup f = some ⟨oc, od, .func (fnOf name qual params body scope dV kV doc pm an cdv ct), osl⟩ := by k_is) (hcd : codeIn (K P) cdv qual = true := by k_is) (hroom : A.depth < recursionLimit := by first | exact roomy0 (by assumption) | ktr_room)
    (hbind : BindsTo s (fnOf name qual params body scope dV kV doc pm an cdv ct) args binds := by walk_at "zz binds") (hkind : (binds.all fun y => scope.names.lookup y.1 == some .local || scope.names.lookup y.1 == some .cell) = true := by exact rfl)
    (hnd : ((cellsFrom 0 scope.names []).map (·.1)).Nodup := by decide +kernel)
    (hco : scope.isCoroutine = false := by exact rfl) (hgen : scope.isGenerator = false := by exact rfl) (hk : scope.kind = .function := by exact rfl) : codeAny (model prog w) A (.call (.ref f) args) R s :=
  code_defC B F X₀ N T hA hf hke ho hcd hroom hbind hkind hnd (fun g L' h₁ tk cells FG F' N' Y' B' X' T' lo => h g L' h₁ tk cells FG F' N' Y' B' X' T' lo (big_of X' F')) hco hgen hk
theorem cls_e {P : Params} {Q : Value → Shared → Prop} {pos : List Value} {kw : List (Str × Value)} {fI : Addr}
    (h : ∀ x dx h', Fr h₀ L h' m → News h₀ L h' ((x, instObj 137 dx) :: (dx, dictOf [] 0) :: news) → (∀ p ∈ news, p.1 < dx) → dx < x →
      codeAny (model prog w) (A.under (.builtin "type.__call__" ⟨.ref 137 :: pos, kw⟩)) (.call (.ref fI) ⟨.ref x :: pos, kw⟩) (InitBack x fun r s' => match r with | .ok (.ret v) => Q v s' | .ok _ => False | .error e => E e s') { s with heap := h' })
    (F : Fr h₀ L s.heap m := by k_dflt k_asm) (X₀ : (K P).In h₀ := by k_dflt k_asm) (N : News h₀ L s.heap news := by k_dflt k_asm) (hm : makesIn (K P) 137 = true := by k_is) (hi : findIn (K P) (.ref 137) "__init__" = some (some (.ref fI)) := by k_is) (hf : isFn (K P) (.ref fI) = true := by k_is) :
    wpAny (model prog w) A (call (.ref 137) pos kw) Q E s := call_cls F X₀ N hm hi hf h
end
theorem len_lst {prog : Program} {w : World} {news : Led} {A : Around} {E : Value → Shared → Prop} {s : Shared} {h₀ : Heap} {L : Addr} {l : Addr} {vs : List Value} {n : Nat} {Q : Value → Shared → Prop} (h : Q (.int (vs.length : Nat) (s.toks + 1)) { s with toks := s.toks + 1 + 1 }) (N : News h₀ L s.heap news := by k_asm) (hm : (l, listOf (List.toArray vs) n) ∈ news := by k_mem) (hz : vs.length ≤ 16384 := by omega) :
    wpAny (model prog w) A (call (.builtin "len") [.ref l]) Q E s := kun_lenL (News.isList N hm) (by rw [List.size_toArray]) (by omega) h
theorem lt63 {x : Int} (h : x < 6) : x < 2 ^ 63 := Int.lt_trans h (by decide)
theorem lt6l {x : Int} {zs : List Int} (hz : zs.length = 6) (h : x < 6) : x < (zs.length : Int) := hz ▸ h
section
variable {prog : Program} {w : World} {A : Around} {E Q : Value → Shared → Prop} {s : Shared} {value slice : PySem.Expr} {l : Addr} {vs : List Value} {ns : List Int} {k : Int} {u : Tok}
theorem item_e (h : ∀ t, Q (.int (ns.getD k.toNat 0) t) s) (hl : s.heap.IsList l vs.toArray := by is_list) (hi : IntsAre vs ns := by l_ints) (h0 : 0 ≤ k := by first | assumption | omega)
    (h1 : k < ns.length := by first | exact lt6l (by assumption) (by assumption) | omega | (simp only [List.length_cons, List.length_nil, List.length_map]; omega)) (hfit : k < 2 ^ 63 := by first | exact lt63 (by assumption) | omega)
    (hs : subscripted slice false (.ref l) (.int k u) = operate [.ref l, .int k u] (getItem (.ref l) (.int k u)) := by with_unfolding_all rfl) : wpAny (model prog w) A (subscriptTail value slice (.ref l) (.int k u)) Q E s := item_anyK hl hi h0 h1 hfit h hs
theorem lit_e {v : Value} (h : Q v s) (hl : s.heap.IsList l vs.toArray := by is_list) (h0 : 0 ≤ k := by first | assumption | decide) (hhi : k < 2 ^ 63 := by first | assumption | decide) (hx : vs[k.toNat]? = some v := by first | assumption | rfl)
    (hs : subscripted slice false (.ref l) (.int k u) = operate [.ref l, .int k u] (getItem (.ref l) (.int k u)) := by with_unfolding_all rfl) : wpAny (model prog w) A (subscriptTail value slice (.ref l) (.int k u)) Q E s := item_litK hl h0 hhi hx h hs
end
end Mine

end
section
open PySem PySem.W PyProof.Rows PySem.Calls
namespace Mine
end Mine
open Mine
local macro_rules | `(tactic| walk_at "zz binds") => `(tactic| first | exact bt0 | exact bt1 | exact bt2 | exact bt3 | exact bt4 | exact bt5 | exact BindsTo.of_eq rfl)
local macro_rules | `(tactic| walk_at "zz an") => `(tactic| ((iterate 12 (first | with_reducible assumption | apply And.right | done)); done))
local macro_rules | `(tactic| walk_at "zz lt") => `(tactic| first | with_reducible assumption | exact andL | exact ltT)
local macro_rules | `(tactic| k_ne) => `(tactic| (refine neN ?_; (try dsimp only); first | exact neL | exact neG))
local macro_rules | `(tactic| walk_at "zz room") => `(tactic| first | exact roomy1 | exact roomy | exact roomy2 | (show _ + _ < _; omega) | ktr_room | ktr_units)
local macro_rules | `(tactic| walk_at "zz v") => `(tactic| first | with_reducible assumption | (with_unfolding_all exact Eq.refl (some _)) | (with_unfolding_all assumption))
local macro_rules | `(tactic| walk_at "zz in") => `(tactic| (k_whole; intros; rename_i B _ _ _ _; (try dsimp only); (try k_lift B); (try k_fold)))
local macro_rules | `(tactic| walk_at "binaryOp Add int int") => `(tactic| with_reducible refine add_e ?_)
local macro_rules | `(tactic| walk_at "binaryOp Sub int int") => `(tactic| with_reducible refine sub_e ?_)
local macro_rules | `(tactic| walk_at "inplaceOp Add int int") => `(tactic| with_reducible refine iadd_e ?_)
local macro_rules | `(tactic| walk_at "eval Constant int") => `(tactic| with_reducible refine const_e ?_)
local macro_rules | `(tactic| walk_at "storeName") => `(tactic| (k_here; k_dflt (refine store_e ?_; k_whole; intros; (try k_sweep))))
local macro_rules | `(tactic| k_all) => `(tactic| first | exact Low.ne | with_reducible assumption | exact all_ne)
local macro_rules | `(tactic| cell_enter) => `(tactic| first
  | (refine enter_auto ?_; walk_at "zz in")
  | (refine cells_e ?_; k_whole; intros; rename_i N Y B _ _ _ _; k_cells Y; (try simp only [List.cons_append, List.nil_append] at N); (try dsimp only); (try k_lift B); (try k_fold)))
local macro_rules | `(tactic| walk_at "setAttr ref") => `(tactic| (k_here; with_reducible refine set_fn ?_; k_dflt (k_whole; intros; rename_i N l; (try dsimp only at N); (try k_lt l); (try k_sweep))))
local macro_rules | `(tactic| walk_at "call ref") => `(tactic| (k_here; with_reducible refine cls_e ?_; k_dflt (k_whole; intros; rename_i l k; (try k_lt l); (try k_lt2 k); (try k_sweep); cell_enter)))
local macro_rules | `(tactic| walk_at "call ref") => `(tactic| (k_here; kn_here; k_dflt (refine wpAny_call (enter_nest ?_); walk_at "zz in")))
local macro_rules | `(tactic| walk_at "getMethod ref") => `(tactic| (k_here; with_reducible refine getm_fn ?_; k_whole))
local macro_rules | `(tactic| walk_at "call builtin:iter") => `(tactic| (k_here; with_reducible refine iter_ci ?_; k_dflt (k_whole; intros; rename_i l; (try k_lt l); (try k_sweep))))
local macro_rules | `(tactic| walk_at "eval Name") => `(tactic| (k_here; with_reducible first | refine ld_e ?_ | refine ldc_e ?_))
local macro_rules | `(tactic| walk_at "loadName") => `(tactic| (k_here; with_reducible first | refine ldn_e ?_ | refine ldnc_e ?_))
section
open PySem PySem.W PyProof.Rows
namespace Mine
noncomputable abbrev Pw' : Program := PySem.Challenge.pw_wj0062_01
noncomputable abbrev dOb (es : List DictEntry) (n : Nat) : Obj := ⟨.type "dict", none, .dict es.toArray n, #[]⟩
/-- the entries that a run of pairs lays, its tokens from k on, c apart -/
noncomputable def ents (c : Nat) : Nat → List (Int × Str) → List DictEntry
  | _, [] => []
  | k, (i, x) :: r => ⟨i, .int i k, .str x (k + 1)⟩ :: ents c (k + c) r
noncomputable def psGo : List (Option PySem.Expr) → List PySem.Expr → List (Int × Str)
  | some (.Constant (.int k) _ _) :: ks, .Constant (.str x) _ _ :: vs => (k, x) :: psGo ks vs
  | _, _ => []
noncomputable def psOf : Stmt → List (Int × Str)
  | .Assign _ (.Dict ks vs _) _ => psGo ks vs
  | _ => []
/-- the table's pairs, by runs of seventeen -/
noncomputable def chunk (i : Nat) : List (Int × Str) := ((psOf (st 3)).drop (17 * i)).take 17
noncomputable def subD (i : Nat) : Obj := dOb (ents 3 (256 + 51 * i) (chunk i)) 17
noncomputable def subL : Obj := dOb (ents 2 2194 (chunk 38)) 4
noncomputable def o11 (P : Params) : Obj := ⟨(.type "tuple"), none, (.seq #[] 0), #[]⟩
noncomputable def o13 (P : Params) : Obj := ⟨(.type "code"), none, (.fields #[(.str (Str.ofString "<module>") 182), (.str (Str.ofString "<module>") 183), (.str (Str.ofString "/claim/cut.py") 184), (.int 1 0), (.int 0 0), (.int 0 0), (.int 0 0), (.int 0 0), (.ref 11), (.bool false), (.int 181 0), (.ref 12), .none, .none, .none, .none, (.int 185 0), (.int 1 0), (.str (Str.ofString "/claim/cut.py") 186)]), #[]⟩
noncomputable def o14 (P : Params) : Obj := ⟨(.type "frame"), none, .plain, #[(some (.ref 13)), (some (.ref 3)), (some (.ref 3)), none, (some (.str (Str.ofString "__main__") 164)), none, (some (.ref 0))]⟩
noncomputable def o15 (P : Params) : Obj := ⟨(.type "list"), none, (.seq #[(.int 173 189), (.int 847 190), (.int 6150 191), (.int 6155 192), (.int 6156 193), (.int 6157 194), (.int 8203 195), (.int 8204 196), (.int 8205 197), (.int 8288 198), (.int 65279 199)] 0), #[]⟩
noncomputable def o16 (P : Params) : Obj := ⟨(.type "range"), none, (.fields #[(.int 65024 200), (.int 65040 201), (.int 1 202)]), #[]⟩
noncomputable def o17 (P : Params) : Obj := ⟨(.type "list"), none, (.seq #[(.int 65024 205), (.int 65025 206), (.int 65026 207), (.int 65027 208), (.int 65028 209), (.int 65029 210), (.int 65030 211), (.int 65031 212), (.int 65032 213), (.int 65033 214), (.int 65034 215), (.int 65035 216), (.int 65036 217), (.int 65037 218), (.int 65038 219), (.int 65039 220)] 18), #[]⟩
noncomputable def o18 (P : Params) : Obj := ⟨(.type "range_iterator"), none, (.fields #[(.int 65040 0), (.int 0 0), (.int 1 0)]), #[]⟩
noncomputable def o19 (P : Params) : Obj := ⟨(.type "tuple"), none, (.seq #[] 0), #[]⟩
noncomputable def o20 (P : Params) : Obj := ⟨(.type "StopIteration"), none, (.fields #[(.ref 19), .none, .none, .none, (.bool false), .none]), #[]⟩
noncomputable def o21 (P : Params) : Obj := ⟨(.type "list"), none, (.seq #[(.int 173 189), (.int 847 190), (.int 6150 191), (.int 6155 192), (.int 6156 193), (.int 6157 194), (.int 8203 195), (.int 8204 196), (.int 8205 197), (.int 8288 198), (.int 65279 199), (.int 65024 205), (.int 65025 206), (.int 65026 207), (.int 65027 208), (.int 65028 209), (.int 65029 210), (.int 65030 211), (.int 65031 212), (.int 65032 213), (.int 65033 214), (.int 65034 215), (.int 65035 216), (.int 65036 217), (.int 65037 218), (.int 65038 219), (.int 65039 220)] 0), #[]⟩
noncomputable def o23 (P : Params) : Obj := ⟨(.type "list_iterator"), none, (.fields #[.none, (.int 27 0)]), #[]⟩
noncomputable def o24 (P : Params) : Obj := ⟨(.type "tuple"), none, (.seq #[] 0), #[]⟩
noncomputable def o25 (P : Params) : Obj := ⟨(.type "StopIteration"), none, (.fields #[(.ref 24), .none, .none, .none, (.bool false), .none]), #[]⟩
noncomputable def o27 (P : Params) : Obj := ⟨.none, none, (.fields #[]), #[]⟩
noncomputable def o30 (P : Params) : Obj := ⟨.none, none, (.func ⟨dName (st 2), (Str.ofString "in_table_b1"), dParams (st 2), .stmts (dBody (st 2)), dScope (st 2), 0, [], .none, .none, .none, .none, none, .none, .none, 0⟩), #[]⟩
noncomputable def o73 (P : Params) : Obj := ⟨.none, none, (.fields #[]), #[]⟩
noncomputable def o76 (P : Params) : Obj := ⟨.none, none, (.func ⟨dName (st 4), (Str.ofString "map_table_b3"), dParams (st 4), .stmts (dBody (st 4)), dScope (st 4), 0, [], .none, .none, .none, .none, none, .none, .none, 0⟩), #[]⟩
noncomputable def o80 (P : Params) : Obj := ⟨.none, none, (.fields #[]), #[]⟩
noncomputable def o83 (P : Params) : Obj := ⟨.none, none, (.func ⟨dName (st 5), (Str.ofString "in_table_c11"), dParams (st 5), .stmts (dBody (st 5)), dScope (st 5), 0, [], .none, .none, .none, .none, none, .none, .none, 0⟩), #[]⟩
noncomputable def o87 (P : Params) : Obj := ⟨.none, none, (.fields #[]), #[]⟩
noncomputable def o90 (P : Params) : Obj := ⟨.none, none, (.func ⟨dName (st 6), (Str.ofString "in_table_c4"), dParams (st 6), .stmts (dBody (st 6)), dScope (st 6), 0, [], .none, .none, .none, .none, none, .none, .none, 0⟩), #[]⟩
noncomputable def o94 (P : Params) : Obj := ⟨.none, none, (.fields #[]), #[]⟩
noncomputable def o97 (P : Params) : Obj := ⟨.none, none, (.func ⟨dName (st 8), (Str.ofString "Int2AP"), dParams (st 8), .stmts (dBody (st 8)), dScope (st 8), 0, [], .none, .none, .none, .none, none, .none, .none, 0⟩), #[]⟩
noncomputable def o100 (P : Params) : Obj := ⟨(.type "tuple"), none, (.seq #[] 0), #[]⟩
noncomputable def o101 (P : Params) : Obj := ⟨(.type "builtin_function_or_method"), none, (.fields #[(.builtin "type.__prepare__"), (.type "type")]), #[]⟩
noncomputable def o102 (P : Params) : Obj := ⟨(.type "dict"), none, (.dict #[⟨PyData.keyHash P (Str.ofString "__module__"), (.str (Str.ofString "__module__") 2251), (.str (Str.ofString "cpy313.netrc") 2242)⟩, ⟨PyData.keyHash P (Str.ofString "__qualname__"), (.str (Str.ofString "__qualname__") 2253), (.str (Str.ofString "_netrclex") 2252)⟩, ⟨PyData.keyHash P (Str.ofString "__firstlineno__"), (.str (Str.ofString "__firstlineno__") 2255), (.int 30 2254)⟩, ⟨PyData.keyHash P (Str.ofString "__init__"), (.str (Str.ofString "__init__") 2263), (.ref 113)⟩, ⟨PyData.keyHash P (Str.ofString "_read_char"), (.str (Str.ofString "_read_char") 2271), (.ref 120)⟩, ⟨PyData.keyHash P (Str.ofString "get_token"), (.str (Str.ofString "get_token") 2281), (.ref 127)⟩, ⟨PyData.keyHash P (Str.ofString "push_token"), (.str (Str.ofString "push_token") 2289), (.ref 134)⟩, ⟨PyData.keyHash P (Str.ofString "__static_attributes__"), (.str (Str.ofString "__static_attributes__") 2294), (.ref 135)⟩] 8), #[]⟩
noncomputable def o103 (P : Params) : Obj := ⟨(.type "tuple"), none, (.seq #[] 0), #[]⟩
noncomputable def o104 (P : Params) : Obj := ⟨.none, none, (.fields #[(.int 32 0), (.int 4 0), (.ref 112), (.int 38 0), (.int 4 0), (.ref 119), (.int 44 0), (.int 4 0), (.ref 126), (.int 71 0), (.int 4 0), (.ref 133)]), #[]⟩
noncomputable def o105 (P : Params) : Obj := ⟨(.type "code"), none, (.fields #[(.str (Str.ofString "_netrclex") 2246), (.str (Str.ofString "_netrclex") 2247), (.str (Str.ofString "/claim/cut.py") 2248), (.int 30 0), (.int 0 0), (.int 0 0), (.int 0 0), (.int 0 0), (.ref 103), (.bool false), (.int 181 0), (.ref 104), .none, .none, .none, .none, (.int 2249 0), (.int 30 0), (.str (Str.ofString "/claim/cut.py") 2250)]), #[]⟩
noncomputable def o106 (P : Params) : Obj := ⟨(.type "frame"), none, .plain, #[(some (.ref 105)), (some (.ref 3)), (some (.ref 102)), none, (some (.str (Str.ofString "cpy313.netrc") 2242)), none, (some (.ref 0))]⟩
noncomputable def o108 (P : Params) : Obj := ⟨.none, none, (.fields #[]), #[]⟩
noncomputable def o111 (P : Params) : Obj := ⟨.none, none, (.func ⟨dName (nth (cBody (st 10)) 0), (Str.ofString "_netrclex.__init__"), dParams (nth (cBody (st 10)) 0), .stmts (dBody (nth (cBody (st 10)) 0)), dScope (nth (cBody (st 10)) 0), 0, [], .none, .none, .none, .none, none, .none, .none, 0⟩), #[]⟩
noncomputable def o115 (P : Params) : Obj := ⟨.none, none, (.fields #[]), #[]⟩
noncomputable def o118 (P : Params) : Obj := ⟨.none, none, (.func ⟨dName (nth (cBody (st 10)) 1), (Str.ofString "_netrclex._read_char"), dParams (nth (cBody (st 10)) 1), .stmts (dBody (nth (cBody (st 10)) 1)), dScope (nth (cBody (st 10)) 1), 0, [], .none, .none, .none, .none, none, .none, .none, 0⟩), #[]⟩
noncomputable def o122 (P : Params) : Obj := ⟨.none, none, (.fields #[]), #[]⟩
noncomputable def o125 (P : Params) : Obj := ⟨.none, none, (.func ⟨dName (nth (cBody (st 10)) 2), (Str.ofString "_netrclex.get_token"), dParams (nth (cBody (st 10)) 2), .stmts (dBody (nth (cBody (st 10)) 2)), dScope (nth (cBody (st 10)) 2), 0, [], .none, .none, .none, .none, none, .none, .none, 0⟩), #[]⟩
noncomputable def o129 (P : Params) : Obj := ⟨.none, none, (.fields #[]), #[]⟩
noncomputable def o132 (P : Params) : Obj := ⟨.none, none, (.func ⟨dName (nth (cBody (st 10)) 3), (Str.ofString "_netrclex.push_token"), dParams (nth (cBody (st 10)) 3), .stmts (dBody (nth (cBody (st 10)) 3)), dScope (nth (cBody (st 10)) 3), 0, [], .none, .none, .none, .none, none, .none, .none, 0⟩), #[]⟩
noncomputable def o140 (P : Params) : Obj := ⟨(.type "super"), none, (.fields #[(.ref 137), (.ref 137), (.ref 137)]), #[]⟩
noncomputable def o141 (P : Params) : Obj := ⟨(.type "builtin_function_or_method"), none, (.fields #[(.builtin "object.__init_subclass__"), (.ref 137)]), #[]⟩
noncomputable def o143 (P : Params) : Obj := ⟨.none, none, (.fields #[]), #[]⟩
noncomputable def o146 (P : Params) : Obj := ⟨.none, none, (.func ⟨dName (st 12), (Str.ofString "gt"), dParams (st 12), .stmts (dBody (st 12)), dScope (st 12), 0, [], .none, .none, .none, .none, none, .none, .none, 0⟩), #[]⟩
noncomputable def o150 (P : Params) : Obj := ⟨.none, none, (.fields #[]), #[]⟩
noncomputable def o153 (P : Params) : Obj := ⟨.none, none, (.func ⟨dName (st 13), (Str.ofString "neg"), dParams (st 13), .stmts (dBody (st 13)), dScope (st 13), 0, [], .none, .none, .none, .none, none, .none, .none, 0⟩), #[]⟩
noncomputable def o157 (P : Params) : Obj := ⟨.none, none, (.fields #[]), #[]⟩
noncomputable def o160 (P : Params) : Obj := ⟨.none, none, (.func ⟨dName (st 14), (Str.ofString "delitem"), dParams (st 14), .stmts (dBody (st 14)), dScope (st 14), 0, [], .none, .none, .none, .none, none, .none, .none, 0⟩), #[]⟩
noncomputable def o164 (P : Params) : Obj := ⟨.none, none, (.fields #[]), #[]⟩
noncomputable def o167 (P : Params) : Obj := ⟨.none, none, (.func ⟨dName (st 15), (Str.ofString "setitem"), dParams (st 15), .stmts (dBody (st 15)), dScope (st 15), 0, [], .none, .none, .none, .none, none, .none, .none, 0⟩), #[]⟩
noncomputable def o171 (P : Params) : Obj := ⟨.none, none, (.fields #[]), #[]⟩
noncomputable def o174 (P : Params) : Obj := ⟨.none, none, (.func ⟨dName (st 16), (Str.ofString "iadd"), dParams (st 16), .stmts (dBody (st 16)), dScope (st 16), 0, [], .none, .none, .none, .none, none, .none, .none, 0⟩), #[]⟩
noncomputable def o178 (P : Params) : Obj := ⟨.none, none, (.fields #[]), #[]⟩
noncomputable def o181 (P : Params) : Obj := ⟨.none, none, (.func ⟨dName (st 17), (Str.ofString "imul"), dParams (st 17), .stmts (dBody (st 17)), dScope (st 17), 0, [], .none, .none, .none, .none, none, .none, .none, 0⟩), #[]⟩
noncomputable def o185 (P : Params) : Obj := ⟨.none, none, (.fields #[]), #[]⟩
noncomputable def o188 (P : Params) : Obj := ⟨.none, none, (.func ⟨dName (st 18), (Str.ofString "isub"), dParams (st 18), .stmts (dBody (st 18)), dScope (st 18), 0, [], .none, .none, .none, .none, none, .none, .none, 0⟩), #[]⟩
noncomputable def o192 (P : Params) : Obj := ⟨.none, none, (.fields #[]), #[]⟩
noncomputable def o195 (P : Params) : Obj := ⟨.none, none, (.func ⟨dName (st 20), (Str.ofString "_law_lexer"), dParams (st 20), .stmts (dBody (st 20)), dScope (st 20), 0, [], .none, .none, .none, .none, none, .none, .none, 0⟩), #[]⟩
noncomputable def o199 (P : Params) : Obj := ⟨.none, none, (.fields #[]), #[]⟩
noncomputable def o200 (P : Params) : Obj := ⟨.none, none, (.func ⟨dName (st 21), (Str.ofString "_law_drawn"), dParams (st 21), .stmts (dBody (st 21)), dScope (st 21), 0, [], .none, .none, .none, .none, none, .none, .none, 0⟩), #[]⟩
noncomputable def o204 (P : Params) : Obj := ⟨.none, none, (.fields #[]), #[]⟩
noncomputable def o205 (P : Params) : Obj := ⟨.none, none, (.func ⟨dName (st 22), (Str.ofString "_law_row"), dParams (st 22), .stmts (dBody (st 22)), dScope (st 22), 0, [], .none, .none, .none, .none, none, .none, .none, 0⟩), #[]⟩
noncomputable def o209 (P : Params) : Obj := ⟨.none, none, (.fields #[]), #[]⟩
noncomputable def o212 (P : Params) : Obj := ⟨.none, none, (.func ⟨dName (st 23), (Str.ofString "_law_told"), dParams (st 23), .stmts (dBody (st 23)), dScope (st 23), 0, [], .none, .none, .none, .none, none, .none, .none, 0⟩), #[]⟩
noncomputable def o216 (P : Params) : Obj := ⟨.none, none, (.fields #[]), #[]⟩
noncomputable def o219 (P : Params) : Obj := ⟨.none, none, (.func ⟨dName (st 24), (Str.ofString "_law_size"), dParams (st 24), .stmts (dBody (st 24)), dScope (st 24), 0, [], .none, .none, .none, .none, none, .none, .none, 0⟩), #[]⟩
noncomputable def o223 (P : Params) : Obj := ⟨.none, none, (.fields #[]), #[]⟩
noncomputable def o226 (P : Params) : Obj := ⟨.none, none, (.func ⟨dName (st 25), (Str.ofString "_law_asked"), dParams (st 25), .stmts (dBody (st 25)), dScope (st 25), 0, [], .none, .none, .none, .none, none, .none, .none, 0⟩), #[]⟩
noncomputable def o230 (P : Params) : Obj := ⟨.none, none, (.fields #[]), #[]⟩
noncomputable def o233 (P : Params) : Obj := ⟨.none, none, (.func ⟨dName (st 26), (Str.ofString "_law_missed"), dParams (st 26), .stmts (dBody (st 26)), dScope (st 26), 0, [], .none, .none, .none, .none, none, .none, .none, 0⟩), #[]⟩
noncomputable def o237 (P : Params) : Obj := ⟨.none, none, (.fields #[]), #[]⟩
noncomputable def o238 (P : Params) : Obj := ⟨.none, none, (.func ⟨dName (st 27), (Str.ofString "_law_rest"), dParams (st 27), .stmts (dBody (st 27)), dScope (st 27), 0, [], .none, .none, .none, .none, none, .none, .none, 0⟩), #[]⟩
noncomputable def o242 (P : Params) : Obj := ⟨.none, none, (.fields #[]), #[]⟩
noncomputable def o245 (P : Params) : Obj := ⟨.none, none, (.func ⟨dName (st 28), (Str.ofString "_law_greatest"), dParams (st 28), .stmts (dBody (st 28)), dScope (st 28), 0, [], .none, .none, .none, .none, none, .none, .none, 0⟩), #[]⟩
noncomputable def o249 (P : Params) : Obj := ⟨.none, none, (.fields #[]), #[]⟩
noncomputable def o250 (P : Params) : Obj := ⟨.none, none, (.func ⟨dName (st 29), (Str.ofString "law"), dParams (st 29), .stmts (dBody (st 29)), dScope (st 29), 0, [], .none, .none, .none, .none, none, .none, .none, 0⟩), #[]⟩
noncomputable def s3_B (P : Params) : Obj := ⟨(.type "dict"), none, (.dict #[⟨PyData.keyHash P (Str.ofString "__name__"), (.str (Str.ofString "__name__") 165), (.str (Str.ofString "__main__") 164)⟩, ⟨PyData.keyHash P (Str.ofString "__doc__"), (.str (Str.ofString "__doc__") 166), .none⟩, ⟨PyData.keyHash P (Str.ofString "__package__"), (.str (Str.ofString "__package__") 167), .none⟩, ⟨PyData.keyHash P (Str.ofString "__loader__"), (.str (Str.ofString "__loader__") 168), (.builtin "__main__.__loader__#opaque")⟩, ⟨PyData.keyHash P (Str.ofString "__spec__"), (.str (Str.ofString "__spec__") 169), .none⟩, ⟨PyData.keyHash P (Str.ofString "__annotations__"), (.str (Str.ofString "__annotations__") 170), (.ref 6)⟩, ⟨PyData.keyHash P (Str.ofString "__builtins__"), (.str (Str.ofString "__builtins__") 171), (.ref 4)⟩, ⟨PyData.keyHash P (Str.ofString "__file__"), (.str (Str.ofString "__file__") 173), (.str (Str.ofString "/claim/cut.py") 172)⟩, ⟨PyData.keyHash P (Str.ofString "__cached__"), (.str (Str.ofString "__cached__") 174), .none⟩] 9), #[]⟩
noncomputable def s12_B (P : Params) : Obj := ⟨.none, none, (.fields #[]), #[]⟩
noncomputable def s3_0 (P : Params) : Obj := ⟨(.type "dict"), none, (.dict #[⟨PyData.keyHash P (Str.ofString "__name__"), (.str (Str.ofString "__name__") 165), (.str (Str.ofString "cpy313.stringprep") 187)⟩, ⟨PyData.keyHash P (Str.ofString "__doc__"), (.str (Str.ofString "__doc__") 166), .none⟩, ⟨PyData.keyHash P (Str.ofString "__package__"), (.str (Str.ofString "__package__") 167), .none⟩, ⟨PyData.keyHash P (Str.ofString "__loader__"), (.str (Str.ofString "__loader__") 168), (.builtin "__main__.__loader__#opaque")⟩, ⟨PyData.keyHash P (Str.ofString "__spec__"), (.str (Str.ofString "__spec__") 169), .none⟩, ⟨PyData.keyHash P (Str.ofString "__annotations__"), (.str (Str.ofString "__annotations__") 170), (.ref 6)⟩, ⟨PyData.keyHash P (Str.ofString "__builtins__"), (.str (Str.ofString "__builtins__") 171), (.ref 4)⟩, ⟨PyData.keyHash P (Str.ofString "__file__"), (.str (Str.ofString "__file__") 173), (.str (Str.ofString "/claim/cut.py") 172)⟩, ⟨PyData.keyHash P (Str.ofString "__cached__"), (.str (Str.ofString "__cached__") 174), .none⟩] 9), #[]⟩
noncomputable def s12_0 (P : Params) : Obj := ⟨.none, none, (.fields #[]), #[]⟩
noncomputable def s3_1 (P : Params) : Obj := ⟨(.type "dict"), none, (.dict #[⟨PyData.keyHash P (Str.ofString "__name__"), (.str (Str.ofString "__name__") 165), (.str (Str.ofString "cpy313.stringprep") 187)⟩, ⟨PyData.keyHash P (Str.ofString "__doc__"), (.str (Str.ofString "__doc__") 166), .none⟩, ⟨PyData.keyHash P (Str.ofString "__package__"), (.str (Str.ofString "__package__") 167), .none⟩, ⟨PyData.keyHash P (Str.ofString "__loader__"), (.str (Str.ofString "__loader__") 168), (.builtin "__main__.__loader__#opaque")⟩, ⟨PyData.keyHash P (Str.ofString "__spec__"), (.str (Str.ofString "__spec__") 169), .none⟩, ⟨PyData.keyHash P (Str.ofString "__annotations__"), (.str (Str.ofString "__annotations__") 170), (.ref 6)⟩, ⟨PyData.keyHash P (Str.ofString "__builtins__"), (.str (Str.ofString "__builtins__") 171), (.ref 4)⟩, ⟨PyData.keyHash P (Str.ofString "__file__"), (.str (Str.ofString "__file__") 173), (.str (Str.ofString "/claim/cut.py") 172)⟩, ⟨PyData.keyHash P (Str.ofString "__cached__"), (.str (Str.ofString "__cached__") 174), .none⟩, ⟨PyData.keyHash P (Str.ofString "b1_set"), (.str (Str.ofString "b1_set") 248), (.ref 22)⟩] 10), #[]⟩
noncomputable def s12_1 (P : Params) : Obj := ⟨.none, none, (.fields #[]), #[]⟩
noncomputable def s3_2 (P : Params) : Obj := ⟨(.type "dict"), none, (.dict #[⟨PyData.keyHash P (Str.ofString "__name__"), (.str (Str.ofString "__name__") 165), (.str (Str.ofString "cpy313.stringprep") 187)⟩, ⟨PyData.keyHash P (Str.ofString "__doc__"), (.str (Str.ofString "__doc__") 166), .none⟩, ⟨PyData.keyHash P (Str.ofString "__package__"), (.str (Str.ofString "__package__") 167), .none⟩, ⟨PyData.keyHash P (Str.ofString "__loader__"), (.str (Str.ofString "__loader__") 168), (.builtin "__main__.__loader__#opaque")⟩, ⟨PyData.keyHash P (Str.ofString "__spec__"), (.str (Str.ofString "__spec__") 169), .none⟩, ⟨PyData.keyHash P (Str.ofString "__annotations__"), (.str (Str.ofString "__annotations__") 170), (.ref 6)⟩, ⟨PyData.keyHash P (Str.ofString "__builtins__"), (.str (Str.ofString "__builtins__") 171), (.ref 4)⟩, ⟨PyData.keyHash P (Str.ofString "__file__"), (.str (Str.ofString "__file__") 173), (.str (Str.ofString "/claim/cut.py") 172)⟩, ⟨PyData.keyHash P (Str.ofString "__cached__"), (.str (Str.ofString "__cached__") 174), .none⟩, ⟨PyData.keyHash P (Str.ofString "b1_set"), (.str (Str.ofString "b1_set") 248), (.ref 22)⟩, ⟨PyData.keyHash P (Str.ofString "in_table_b1"), (.str (Str.ofString "in_table_b1") 255), (.ref 32)⟩] 11), #[]⟩
noncomputable def s12_2 (P : Params) : Obj := ⟨.none, none, (.fields #[(.int 3 0), (.int 0 0), (.ref 31)]), #[]⟩
noncomputable def s3_3 (P : Params) : Obj := ⟨(.type "dict"), none, (.dict #[⟨PyData.keyHash P (Str.ofString "__name__"), (.str (Str.ofString "__name__") 165), (.str (Str.ofString "cpy313.stringprep") 187)⟩, ⟨PyData.keyHash P (Str.ofString "__doc__"), (.str (Str.ofString "__doc__") 166), .none⟩, ⟨PyData.keyHash P (Str.ofString "__package__"), (.str (Str.ofString "__package__") 167), .none⟩, ⟨PyData.keyHash P (Str.ofString "__loader__"), (.str (Str.ofString "__loader__") 168), (.builtin "__main__.__loader__#opaque")⟩, ⟨PyData.keyHash P (Str.ofString "__spec__"), (.str (Str.ofString "__spec__") 169), .none⟩, ⟨PyData.keyHash P (Str.ofString "__annotations__"), (.str (Str.ofString "__annotations__") 170), (.ref 6)⟩, ⟨PyData.keyHash P (Str.ofString "__builtins__"), (.str (Str.ofString "__builtins__") 171), (.ref 4)⟩, ⟨PyData.keyHash P (Str.ofString "__file__"), (.str (Str.ofString "__file__") 173), (.str (Str.ofString "/claim/cut.py") 172)⟩, ⟨PyData.keyHash P (Str.ofString "__cached__"), (.str (Str.ofString "__cached__") 174), .none⟩, ⟨PyData.keyHash P (Str.ofString "b1_set"), (.str (Str.ofString "b1_set") 248), (.ref 22)⟩, ⟨PyData.keyHash P (Str.ofString "in_table_b1"), (.str (Str.ofString "in_table_b1") 255), (.ref 32)⟩, ⟨PyData.keyHash P (Str.ofString "b3_exceptions"), (.str (Str.ofString "b3_exceptions") 2206), (.ref 33)⟩] 12), #[]⟩
noncomputable def s12_3 (P : Params) : Obj := ⟨.none, none, (.fields #[(.int 3 0), (.int 0 0), (.ref 31)]), #[]⟩
noncomputable def s3_9 (P : Params) : Obj := ⟨(.type "dict"), none, (.dict #[⟨PyData.keyHash P (Str.ofString "__name__"), (.str (Str.ofString "__name__") 165), (.str (Str.ofString "cpy313.netrc") 2242)⟩, ⟨PyData.keyHash P (Str.ofString "__doc__"), (.str (Str.ofString "__doc__") 166), .none⟩, ⟨PyData.keyHash P (Str.ofString "__package__"), (.str (Str.ofString "__package__") 167), .none⟩, ⟨PyData.keyHash P (Str.ofString "__loader__"), (.str (Str.ofString "__loader__") 168), (.builtin "__main__.__loader__#opaque")⟩, ⟨PyData.keyHash P (Str.ofString "__spec__"), (.str (Str.ofString "__spec__") 169), .none⟩, ⟨PyData.keyHash P (Str.ofString "__annotations__"), (.str (Str.ofString "__annotations__") 170), (.ref 6)⟩, ⟨PyData.keyHash P (Str.ofString "__builtins__"), (.str (Str.ofString "__builtins__") 171), (.ref 4)⟩, ⟨PyData.keyHash P (Str.ofString "__file__"), (.str (Str.ofString "__file__") 173), (.str (Str.ofString "/claim/cut.py") 172)⟩, ⟨PyData.keyHash P (Str.ofString "__cached__"), (.str (Str.ofString "__cached__") 174), .none⟩, ⟨PyData.keyHash P (Str.ofString "b1_set"), (.str (Str.ofString "b1_set") 248), (.ref 22)⟩, ⟨PyData.keyHash P (Str.ofString "in_table_b1"), (.str (Str.ofString "in_table_b1") 255), (.ref 32)⟩, ⟨PyData.keyHash P (Str.ofString "b3_exceptions"), (.str (Str.ofString "b3_exceptions") 2206), (.ref 33)⟩, ⟨PyData.keyHash P (Str.ofString "map_table_b3"), (.str (Str.ofString "map_table_b3") 2214), (.ref 78)⟩, ⟨PyData.keyHash P (Str.ofString "in_table_c11"), (.str (Str.ofString "in_table_c11") 2221), (.ref 85)⟩, ⟨PyData.keyHash P (Str.ofString "in_table_c4"), (.str (Str.ofString "in_table_c4") 2229), (.ref 92)⟩, ⟨PyData.keyHash P (Str.ofString "Int2AP"), (.str (Str.ofString "Int2AP") 2241), (.ref 99)⟩] 16), #[]⟩
noncomputable def s12_9 (P : Params) : Obj := ⟨.none, none, (.fields #[(.int 3 0), (.int 0 0), (.ref 31), (.int 6 0), (.int 0 0), (.ref 77), (.int 11 0), (.int 0 0), (.ref 84), (.int 13 0), (.int 0 0), (.ref 91), (.int 21 0), (.int 0 0), (.ref 98)]), #[]⟩
noncomputable def s3_10 (P : Params) : Obj := ⟨(.type "dict"), none, (.dict #[⟨PyData.keyHash P (Str.ofString "__name__"), (.str (Str.ofString "__name__") 165), (.str (Str.ofString "cpy313.netrc") 2242)⟩, ⟨PyData.keyHash P (Str.ofString "__doc__"), (.str (Str.ofString "__doc__") 166), .none⟩, ⟨PyData.keyHash P (Str.ofString "__package__"), (.str (Str.ofString "__package__") 167), .none⟩, ⟨PyData.keyHash P (Str.ofString "__loader__"), (.str (Str.ofString "__loader__") 168), (.builtin "__main__.__loader__#opaque")⟩, ⟨PyData.keyHash P (Str.ofString "__spec__"), (.str (Str.ofString "__spec__") 169), .none⟩, ⟨PyData.keyHash P (Str.ofString "__annotations__"), (.str (Str.ofString "__annotations__") 170), (.ref 6)⟩, ⟨PyData.keyHash P (Str.ofString "__builtins__"), (.str (Str.ofString "__builtins__") 171), (.ref 4)⟩, ⟨PyData.keyHash P (Str.ofString "__file__"), (.str (Str.ofString "__file__") 173), (.str (Str.ofString "/claim/cut.py") 172)⟩, ⟨PyData.keyHash P (Str.ofString "__cached__"), (.str (Str.ofString "__cached__") 174), .none⟩, ⟨PyData.keyHash P (Str.ofString "b1_set"), (.str (Str.ofString "b1_set") 248), (.ref 22)⟩, ⟨PyData.keyHash P (Str.ofString "in_table_b1"), (.str (Str.ofString "in_table_b1") 255), (.ref 32)⟩, ⟨PyData.keyHash P (Str.ofString "b3_exceptions"), (.str (Str.ofString "b3_exceptions") 2206), (.ref 33)⟩, ⟨PyData.keyHash P (Str.ofString "map_table_b3"), (.str (Str.ofString "map_table_b3") 2214), (.ref 78)⟩, ⟨PyData.keyHash P (Str.ofString "in_table_c11"), (.str (Str.ofString "in_table_c11") 2221), (.ref 85)⟩, ⟨PyData.keyHash P (Str.ofString "in_table_c4"), (.str (Str.ofString "in_table_c4") 2229), (.ref 92)⟩, ⟨PyData.keyHash P (Str.ofString "Int2AP"), (.str (Str.ofString "Int2AP") 2241), (.ref 99)⟩, ⟨PyData.keyHash P (Str.ofString "_netrclex"), (.str (Str.ofString "_netrclex") 2301), (.ref 137)⟩] 17), #[]⟩
noncomputable def s12_10 (P : Params) : Obj := ⟨.none, none, (.fields #[(.int 3 0), (.int 0 0), (.ref 31), (.int 6 0), (.int 0 0), (.ref 77), (.int 11 0), (.int 0 0), (.ref 84), (.int 13 0), (.int 0 0), (.ref 91), (.int 21 0), (.int 0 0), (.ref 98), (.int 30 0), (.int 0 0), (.ref 105)]), #[]⟩
noncomputable def s3_18 (P : Params) : Obj := ⟨(.type "dict"), none, (.dict #[⟨PyData.keyHash P (Str.ofString "__name__"), (.str (Str.ofString "__name__") 165), (.str (Str.ofString "cpy313.operator") 2302)⟩, ⟨PyData.keyHash P (Str.ofString "__doc__"), (.str (Str.ofString "__doc__") 166), .none⟩, ⟨PyData.keyHash P (Str.ofString "__package__"), (.str (Str.ofString "__package__") 167), .none⟩, ⟨PyData.keyHash P (Str.ofString "__loader__"), (.str (Str.ofString "__loader__") 168), (.builtin "__main__.__loader__#opaque")⟩, ⟨PyData.keyHash P (Str.ofString "__spec__"), (.str (Str.ofString "__spec__") 169), .none⟩, ⟨PyData.keyHash P (Str.ofString "__annotations__"), (.str (Str.ofString "__annotations__") 170), (.ref 6)⟩, ⟨PyData.keyHash P (Str.ofString "__builtins__"), (.str (Str.ofString "__builtins__") 171), (.ref 4)⟩, ⟨PyData.keyHash P (Str.ofString "__file__"), (.str (Str.ofString "__file__") 173), (.str (Str.ofString "/claim/cut.py") 172)⟩, ⟨PyData.keyHash P (Str.ofString "__cached__"), (.str (Str.ofString "__cached__") 174), .none⟩, ⟨PyData.keyHash P (Str.ofString "b1_set"), (.str (Str.ofString "b1_set") 248), (.ref 22)⟩, ⟨PyData.keyHash P (Str.ofString "in_table_b1"), (.str (Str.ofString "in_table_b1") 255), (.ref 32)⟩, ⟨PyData.keyHash P (Str.ofString "b3_exceptions"), (.str (Str.ofString "b3_exceptions") 2206), (.ref 33)⟩, ⟨PyData.keyHash P (Str.ofString "map_table_b3"), (.str (Str.ofString "map_table_b3") 2214), (.ref 78)⟩, ⟨PyData.keyHash P (Str.ofString "in_table_c11"), (.str (Str.ofString "in_table_c11") 2221), (.ref 85)⟩, ⟨PyData.keyHash P (Str.ofString "in_table_c4"), (.str (Str.ofString "in_table_c4") 2229), (.ref 92)⟩, ⟨PyData.keyHash P (Str.ofString "Int2AP"), (.str (Str.ofString "Int2AP") 2241), (.ref 99)⟩, ⟨PyData.keyHash P (Str.ofString "_netrclex"), (.str (Str.ofString "_netrclex") 2301), (.ref 137)⟩, ⟨PyData.keyHash P (Str.ofString "gt"), (.str (Str.ofString "gt") 2311), (.ref 148)⟩, ⟨PyData.keyHash P (Str.ofString "neg"), (.str (Str.ofString "neg") 2318), (.ref 155)⟩, ⟨PyData.keyHash P (Str.ofString "delitem"), (.str (Str.ofString "delitem") 2326), (.ref 162)⟩, ⟨PyData.keyHash P (Str.ofString "setitem"), (.str (Str.ofString "setitem") 2335), (.ref 169)⟩, ⟨PyData.keyHash P (Str.ofString "iadd"), (.str (Str.ofString "iadd") 2343), (.ref 176)⟩, ⟨PyData.keyHash P (Str.ofString "imul"), (.str (Str.ofString "imul") 2351), (.ref 183)⟩, ⟨PyData.keyHash P (Str.ofString "isub"), (.str (Str.ofString "isub") 2359), (.ref 190)⟩] 24), #[]⟩
noncomputable def s12_18 (P : Params) : Obj := ⟨.none, none, (.fields #[(.int 3 0), (.int 0 0), (.ref 31), (.int 6 0), (.int 0 0), (.ref 77), (.int 11 0), (.int 0 0), (.ref 84), (.int 13 0), (.int 0 0), (.ref 91), (.int 21 0), (.int 0 0), (.ref 98), (.int 30 0), (.int 0 0), (.ref 105), (.int 74 0), (.int 0 0), (.ref 147), (.int 76 0), (.int 0 0), (.ref 154), (.int 78 0), (.int 0 0), (.ref 161), (.int 80 0), (.int 0 0), (.ref 168), (.int 82 0), (.int 0 0), (.ref 175), (.int 85 0), (.int 0 0), (.ref 182), (.int 88 0), (.int 0 0), (.ref 189)]), #[]⟩
noncomputable def s3_25 (P : Params) : Obj := ⟨(.type "dict"), none, (.dict #[⟨PyData.keyHash P (Str.ofString "__name__"), (.str (Str.ofString "__name__") 165), (.str (Str.ofString "law_wj0062_01") 2360)⟩, ⟨PyData.keyHash P (Str.ofString "__doc__"), (.str (Str.ofString "__doc__") 166), .none⟩, ⟨PyData.keyHash P (Str.ofString "__package__"), (.str (Str.ofString "__package__") 167), .none⟩, ⟨PyData.keyHash P (Str.ofString "__loader__"), (.str (Str.ofString "__loader__") 168), (.builtin "__main__.__loader__#opaque")⟩, ⟨PyData.keyHash P (Str.ofString "__spec__"), (.str (Str.ofString "__spec__") 169), .none⟩, ⟨PyData.keyHash P (Str.ofString "__annotations__"), (.str (Str.ofString "__annotations__") 170), (.ref 6)⟩, ⟨PyData.keyHash P (Str.ofString "__builtins__"), (.str (Str.ofString "__builtins__") 171), (.ref 4)⟩, ⟨PyData.keyHash P (Str.ofString "__file__"), (.str (Str.ofString "__file__") 173), (.str (Str.ofString "/claim/cut.py") 172)⟩, ⟨PyData.keyHash P (Str.ofString "__cached__"), (.str (Str.ofString "__cached__") 174), .none⟩, ⟨PyData.keyHash P (Str.ofString "b1_set"), (.str (Str.ofString "b1_set") 248), (.ref 22)⟩, ⟨PyData.keyHash P (Str.ofString "in_table_b1"), (.str (Str.ofString "in_table_b1") 255), (.ref 32)⟩, ⟨PyData.keyHash P (Str.ofString "b3_exceptions"), (.str (Str.ofString "b3_exceptions") 2206), (.ref 33)⟩, ⟨PyData.keyHash P (Str.ofString "map_table_b3"), (.str (Str.ofString "map_table_b3") 2214), (.ref 78)⟩, ⟨PyData.keyHash P (Str.ofString "in_table_c11"), (.str (Str.ofString "in_table_c11") 2221), (.ref 85)⟩, ⟨PyData.keyHash P (Str.ofString "in_table_c4"), (.str (Str.ofString "in_table_c4") 2229), (.ref 92)⟩, ⟨PyData.keyHash P (Str.ofString "Int2AP"), (.str (Str.ofString "Int2AP") 2241), (.ref 99)⟩, ⟨PyData.keyHash P (Str.ofString "_netrclex"), (.str (Str.ofString "_netrclex") 2301), (.ref 137)⟩, ⟨PyData.keyHash P (Str.ofString "gt"), (.str (Str.ofString "gt") 2311), (.ref 148)⟩, ⟨PyData.keyHash P (Str.ofString "neg"), (.str (Str.ofString "neg") 2318), (.ref 155)⟩, ⟨PyData.keyHash P (Str.ofString "delitem"), (.str (Str.ofString "delitem") 2326), (.ref 162)⟩, ⟨PyData.keyHash P (Str.ofString "setitem"), (.str (Str.ofString "setitem") 2335), (.ref 169)⟩, ⟨PyData.keyHash P (Str.ofString "iadd"), (.str (Str.ofString "iadd") 2343), (.ref 176)⟩, ⟨PyData.keyHash P (Str.ofString "imul"), (.str (Str.ofString "imul") 2351), (.ref 183)⟩, ⟨PyData.keyHash P (Str.ofString "isub"), (.str (Str.ofString "isub") 2359), (.ref 190)⟩, ⟨PyData.keyHash P (Str.ofString "_law_lexer"), (.str (Str.ofString "_law_lexer") 2372), (.ref 197)⟩, ⟨PyData.keyHash P (Str.ofString "_law_drawn"), (.str (Str.ofString "_law_drawn") 2378), (.ref 202)⟩, ⟨PyData.keyHash P (Str.ofString "_law_row"), (.str (Str.ofString "_law_row") 2384), (.ref 207)⟩, ⟨PyData.keyHash P (Str.ofString "_law_told"), (.str (Str.ofString "_law_told") 2395), (.ref 214)⟩, ⟨PyData.keyHash P (Str.ofString "_law_size"), (.str (Str.ofString "_law_size") 2403), (.ref 221)⟩, ⟨PyData.keyHash P (Str.ofString "_law_asked"), (.str (Str.ofString "_law_asked") 2418), (.ref 228)⟩] 30), #[]⟩
noncomputable def s12_25 (P : Params) : Obj := ⟨.none, none, (.fields #[(.int 3 0), (.int 0 0), (.ref 31), (.int 6 0), (.int 0 0), (.ref 77), (.int 11 0), (.int 0 0), (.ref 84), (.int 13 0), (.int 0 0), (.ref 91), (.int 21 0), (.int 0 0), (.ref 98), (.int 30 0), (.int 0 0), (.ref 105), (.int 74 0), (.int 0 0), (.ref 147), (.int 76 0), (.int 0 0), (.ref 154), (.int 78 0), (.int 0 0), (.ref 161), (.int 80 0), (.int 0 0), (.ref 168), (.int 82 0), (.int 0 0), (.ref 175), (.int 85 0), (.int 0 0), (.ref 182), (.int 88 0), (.int 0 0), (.ref 189), (.int 92 0), (.int 0 0), (.ref 196), (.int 102 0), (.int 0 0), (.ref 201), (.int 110 0), (.int 0 0), (.ref 206), (.int 127 0), (.int 0 0), (.ref 213), (.int 139 0), (.int 0 0), (.ref 220), (.int 142 0), (.int 0 0), (.ref 227)]), #[]⟩
noncomputable def s12_29 (P : Params) : Obj := ⟨.none, none, (.fields #[(.int 3 0), (.int 0 0), (.ref 31), (.int 6 0), (.int 0 0), (.ref 77), (.int 11 0), (.int 0 0), (.ref 84), (.int 13 0), (.int 0 0), (.ref 91), (.int 21 0), (.int 0 0), (.ref 98), (.int 30 0), (.int 0 0), (.ref 105), (.int 74 0), (.int 0 0), (.ref 147), (.int 76 0), (.int 0 0), (.ref 154), (.int 78 0), (.int 0 0), (.ref 161), (.int 80 0), (.int 0 0), (.ref 168), (.int 82 0), (.int 0 0), (.ref 175), (.int 85 0), (.int 0 0), (.ref 182), (.int 88 0), (.int 0 0), (.ref 189), (.int 92 0), (.int 0 0), (.ref 196), (.int 102 0), (.int 0 0), (.ref 201), (.int 110 0), (.int 0 0), (.ref 206), (.int 127 0), (.int 0 0), (.ref 213), (.int 139 0), (.int 0 0), (.ref 220), (.int 142 0), (.int 0 0), (.ref 227), (.int 150 0), (.int 0 0), (.ref 234), (.int 160 0), (.int 0 0), (.ref 239), (.int 186 0), (.int 0 0), (.ref 246), (.int 201 0), (.int 0 0), (.ref 251)]), #[]⟩
noncomputable def T_B (P : Params) : BT := (.node (boot_o_0 P) (.node (boot_o_1 P) (.node (s3_B P) (.node (boot_o_7 P) .nil .nil) (.node (o11 P) .nil .nil)) (.node (boot_o_5 P) (.node (boot_o_9 P) .nil .nil) (.node (o13 P) .nil .nil))) (.node (boot_o_2 P) (.node (boot_o_4 P) (.node (boot_o_8 P) .nil .nil) (.node (s12_B P) .nil .nil)) (.node (boot_o_6 P) (.node (boot_o_10 P) .nil .nil) (.node (o14 P) .nil .nil))))
noncomputable def S_B (w : World) (os : OsState) : SharedT := ⟨T_B w.params, nat_lit 15, {}, #[], {}, nat_lit 187, os⟩
noncomputable def T_0 (P : Params) : BT := (.node (boot_o_0 P) (.node (boot_o_1 P) (.node (s3_0 P) (.node (boot_o_7 P) .nil .nil) (.node (o11 P) .nil .nil)) (.node (boot_o_5 P) (.node (boot_o_9 P) .nil .nil) (.node (o13 P) .nil .nil))) (.node (boot_o_2 P) (.node (boot_o_4 P) (.node (boot_o_8 P) .nil .nil) (.node (s12_0 P) .nil .nil)) (.node (boot_o_6 P) (.node (boot_o_10 P) .nil .nil) (.node (o14 P) .nil .nil))))
noncomputable def S_0 (w : World) (os : OsState) : SharedT := ⟨T_0 w.params, nat_lit 15, {}, #[], {}, nat_lit 189, os⟩
noncomputable def T_1 (P : Params) : BT := (.node (boot_o_0 P) (.node (boot_o_1 P) (.node (s3_1 P) (.node (boot_o_7 P) (.node (o15 P) .nil .nil) (.node (o23 P) .nil .nil)) (.node (o11 P) (.node (o19 P) .nil .nil) .nil)) (.node (boot_o_5 P) (.node (boot_o_9 P) (.node (o17 P) .nil .nil) (.node (o25 P) .nil .nil)) (.node (o13 P) (.node (o21 P) .nil .nil) .nil))) (.node (boot_o_2 P) (.node (boot_o_4 P) (.node (boot_o_8 P) (.node (o16 P) .nil .nil) (.node (o24 P) .nil .nil)) (.node (s12_1 P) (.node (o20 P) .nil .nil) .nil)) (.node (boot_o_6 P) (.node (boot_o_10 P) (.node (o18 P) .nil .nil) .nil) (.node (o14 P) (.node (o22 P) .nil .nil) .nil))))
noncomputable def S_1 (w : World) (os : OsState) : SharedT := ⟨T_1 w.params, nat_lit 26, {}, #[], {}, nat_lit 249, os⟩
noncomputable def T_2 (P : Params) : BT := (.node (boot_o_0 P) (.node (boot_o_1 P) (.node (s3_2 P) (.node (boot_o_7 P) (.node (o15 P) (.node (o31 P) .nil .nil) .nil) (.node (o23 P) .nil .nil)) (.node (o11 P) (.node (o19 P) .nil .nil) (.node (o27 P) .nil .nil))) (.node (boot_o_5 P) (.node (boot_o_9 P) (.node (o17 P) .nil .nil) (.node (o25 P) .nil .nil)) (.node (o13 P) (.node (o21 P) .nil .nil) (.node (o29 P) .nil .nil)))) (.node (boot_o_2 P) (.node (boot_o_4 P) (.node (boot_o_8 P) (.node (o16 P) (.node (o32 P) .nil .nil) .nil) (.node (o24 P) .nil .nil)) (.node (s12_2 P) (.node (o20 P) .nil .nil) (.node (o28 P) .nil .nil))) (.node (boot_o_6 P) (.node (boot_o_10 P) (.node (o18 P) .nil .nil) (.node (o26 P) .nil .nil)) (.node (o14 P) (.node (o22 P) .nil .nil) (.node (o30 P) .nil .nil)))))
noncomputable def S_2 (w : World) (os : OsState) : SharedT := ⟨T_2 w.params, nat_lit 33, {}, #[], {}, nat_lit 256, os⟩
noncomputable def T_3 (P : Params) : BT := (.node (boot_o_0 P) (.node (boot_o_1 P) (.node (s3_3 P) (.node (boot_o_7 P) (.node (o15 P) (.node (o31 P) (.node (subD 30) .nil .nil) .nil) (.node (subD 14) .nil .nil)) (.node (o23 P) (.node (subD 6) (.node (subL) .nil .nil) .nil) (.node (subD 22) .nil .nil))) (.node (o11 P) (.node (o19 P) (.node (subD 2) (.node (subD 34) .nil .nil) .nil) (.node (subD 18) .nil .nil)) (.node (o27 P) (.node (subD 10) .nil .nil) (.node (subD 26) .nil .nil)))) (.node (boot_o_5 P) (.node (boot_o_9 P) (.node (o17 P) (.node (o33 P) (.node (subD 32) .nil .nil) .nil) (.node (subD 16) .nil .nil)) (.node (o25 P) (.node (subD 8) .nil .nil) (.node (subD 24) .nil .nil))) (.node (o13 P) (.node (o21 P) (.node (subD 4) (.node (subD 36) .nil .nil) .nil) (.node (subD 20) .nil .nil)) (.node (o29 P) (.node (subD 12) .nil .nil) (.node (subD 28) .nil .nil))))) (.node (boot_o_2 P) (.node (boot_o_4 P) (.node (boot_o_8 P) (.node (o16 P) (.node (o32 P) (.node (subD 31) .nil .nil) .nil) (.node (subD 15) .nil .nil)) (.node (o24 P) (.node (subD 7) .nil .nil) (.node (subD 23) .nil .nil))) (.node (s12_3 P) (.node (o20 P) (.node (subD 3) (.node (subD 35) .nil .nil) .nil) (.node (subD 19) .nil .nil)) (.node (o28 P) (.node (subD 11) .nil .nil) (.node (subD 27) .nil .nil)))) (.node (boot_o_6 P) (.node (boot_o_10 P) (.node (o18 P) (.node (subD 1) (.node (subD 33) .nil .nil) .nil) (.node (subD 17) .nil .nil)) (.node (o26 P) (.node (subD 9) .nil .nil) (.node (subD 25) .nil .nil))) (.node (o14 P) (.node (o22 P) (.node (subD 5) (.node (subD 37) .nil .nil) .nil) (.node (subD 21) .nil .nil)) (.node (o30 P) (.node (subD 13) .nil .nil) (.node (subD 29) .nil .nil))))))
noncomputable def S_3 (w : World) (os : OsState) : SharedT := ⟨T_3 w.params, nat_lit 72, {}, #[], {}, nat_lit 2207, os⟩
noncomputable def T_9 (P : Params) : BT := (.node (boot_o_0 P) (.node (boot_o_1 P) (.node (s3_9 P) (.node (boot_o_7 P) (.node (o15 P) (.node (o31 P) (.node (subD 30) .nil .nil) (.node (o95 P) .nil .nil)) (.node (subD 14) (.node (o79 P) .nil .nil) .nil)) (.node (o23 P) (.node (subD 6) (.node (subL) .nil .nil) .nil) (.node (subD 22) (.node (o87 P) .nil .nil) .nil))) (.node (o11 P) (.node (o19 P) (.node (subD 2) (.node (subD 34) .nil .nil) (.node (o99 P) .nil .nil)) (.node (subD 18) (.node (o83 P) .nil .nil) .nil)) (.node (o27 P) (.node (subD 10) (.node (o75 P) .nil .nil) .nil) (.node (subD 26) (.node (o91 P) .nil .nil) .nil)))) (.node (boot_o_5 P) (.node (boot_o_9 P) (.node (o17 P) (.node (o33 P) (.node (subD 32) .nil .nil) (.node (o97 P) .nil .nil)) (.node (subD 16) (.node (o81 P) .nil .nil) .nil)) (.node (o25 P) (.node (subD 8) (.node (o73 P) .nil .nil) .nil) (.node (subD 24) (.node (o89 P) .nil .nil) .nil))) (.node (o13 P) (.node (o21 P) (.node (subD 4) (.node (subD 36) .nil .nil) .nil) (.node (subD 20) (.node (o85 P) .nil .nil) .nil)) (.node (o29 P) (.node (subD 12) (.node (o77 P) .nil .nil) .nil) (.node (subD 28) (.node (o93 P) .nil .nil) .nil))))) (.node (boot_o_2 P) (.node (boot_o_4 P) (.node (boot_o_8 P) (.node (o16 P) (.node (o32 P) (.node (subD 31) .nil .nil) (.node (o96 P) .nil .nil)) (.node (subD 15) (.node (o80 P) .nil .nil) .nil)) (.node (o24 P) (.node (subD 7) (.node (o72 P) .nil .nil) .nil) (.node (subD 23) (.node (o88 P) .nil .nil) .nil))) (.node (s12_9 P) (.node (o20 P) (.node (subD 3) (.node (subD 35) .nil .nil) .nil) (.node (subD 19) (.node (o84 P) .nil .nil) .nil)) (.node (o28 P) (.node (subD 11) (.node (o76 P) .nil .nil) .nil) (.node (subD 27) (.node (o92 P) .nil .nil) .nil)))) (.node (boot_o_6 P) (.node (boot_o_10 P) (.node (o18 P) (.node (subD 1) (.node (subD 33) .nil .nil) (.node (o98 P) .nil .nil)) (.node (subD 17) (.node (o82 P) .nil .nil) .nil)) (.node (o26 P) (.node (subD 9) (.node (o74 P) .nil .nil) .nil) (.node (subD 25) (.node (o90 P) .nil .nil) .nil))) (.node (o14 P) (.node (o22 P) (.node (subD 5) (.node (subD 37) .nil .nil) .nil) (.node (subD 21) (.node (o86 P) .nil .nil) .nil)) (.node (o30 P) (.node (subD 13) (.node (o78 P) .nil .nil) .nil) (.node (subD 29) (.node (o94 P) .nil .nil) .nil))))))
noncomputable def S_9 (w : World) (os : OsState) : SharedT := ⟨T_9 w.params, nat_lit 100, {}, #[], {}, nat_lit 2244, os⟩
noncomputable def T_10 (P : Params) : BT := (.node (boot_o_0 P) (.node (boot_o_1 P) (.node (s3_10 P) (.node (boot_o_7 P) (.node (o15 P) (.node (o31 P) (.node (subD 30) (.node (o127 P) .nil .nil) .nil) (.node (o95 P) .nil .nil)) (.node (subD 14) (.node (o79 P) .nil .nil) (.node (o111 P) .nil .nil))) (.node (o23 P) (.node (subD 6) (.node (subL) (.node (o135 P) .nil .nil) .nil) (.node (o103 P) .nil .nil)) (.node (subD 22) (.node (o87 P) .nil .nil) (.node (o119 P) .nil .nil)))) (.node (o11 P) (.node (o19 P) (.node (subD 2) (.node (subD 34) (.node (o131 P) .nil .nil) .nil) (.node (o99 P) .nil .nil)) (.node (subD 18) (.node (o83 P) .nil .nil) (.node (o115 P) .nil .nil))) (.node (o27 P) (.node (subD 10) (.node (o75 P) (.node (o139 P) .nil .nil) .nil) (.node (o107 P) .nil .nil)) (.node (subD 26) (.node (o91 P) .nil .nil) (.node (o123 P) .nil .nil))))) (.node (boot_o_5 P) (.node (boot_o_9 P) (.node (o17 P) (.node (o33 P) (.node (subD 32) (.node (o129 P) .nil .nil) .nil) (.node (o97 P) .nil .nil)) (.node (subD 16) (.node (o81 P) .nil .nil) (.node (o113 P) .nil .nil))) (.node (o25 P) (.node (subD 8) (.node (o73 P) (.node (o137 P) .nil .nil) .nil) (.node (o105 P) .nil .nil)) (.node (subD 24) (.node (o89 P) .nil .nil) (.node (o121 P) .nil .nil)))) (.node (o13 P) (.node (o21 P) (.node (subD 4) (.node (subD 36) (.node (o133 P) .nil .nil) .nil) (.node (o101 P) .nil .nil)) (.node (subD 20) (.node (o85 P) .nil .nil) (.node (o117 P) .nil .nil))) (.node (o29 P) (.node (subD 12) (.node (o77 P) (.node (o141 P) .nil .nil) .nil) (.node (o109 P) .nil .nil)) (.node (subD 28) (.node (o93 P) .nil .nil) (.node (o125 P) .nil .nil)))))) (.node (boot_o_2 P) (.node (boot_o_4 P) (.node (boot_o_8 P) (.node (o16 P) (.node (o32 P) (.node (subD 31) (.node (o128 P) .nil .nil) .nil) (.node (o96 P) .nil .nil)) (.node (subD 15) (.node (o80 P) .nil .nil) (.node (o112 P) .nil .nil))) (.node (o24 P) (.node (subD 7) (.node (o72 P) (.node (o136 P) .nil .nil) .nil) (.node (o104 P) .nil .nil)) (.node (subD 23) (.node (o88 P) .nil .nil) (.node (o120 P) .nil .nil)))) (.node (s12_10 P) (.node (o20 P) (.node (subD 3) (.node (subD 35) (.node (o132 P) .nil .nil) .nil) (.node (o100 P) .nil .nil)) (.node (subD 19) (.node (o84 P) .nil .nil) (.node (o116 P) .nil .nil))) (.node (o28 P) (.node (subD 11) (.node (o76 P) (.node (o140 P) .nil .nil) .nil) (.node (o108 P) .nil .nil)) (.node (subD 27) (.node (o92 P) .nil .nil) (.node (o124 P) .nil .nil))))) (.node (boot_o_6 P) (.node (boot_o_10 P) (.node (o18 P) (.node (subD 1) (.node (subD 33) (.node (o130 P) .nil .nil) .nil) (.node (o98 P) .nil .nil)) (.node (subD 17) (.node (o82 P) .nil .nil) (.node (o114 P) .nil .nil))) (.node (o26 P) (.node (subD 9) (.node (o74 P) (.node (o138 P) .nil .nil) .nil) (.node (o106 P) .nil .nil)) (.node (subD 25) (.node (o90 P) .nil .nil) (.node (o122 P) .nil .nil)))) (.node (o14 P) (.node (o22 P) (.node (subD 5) (.node (subD 37) (.node (o134 P) .nil .nil) .nil) (.node (o102 P) .nil .nil)) (.node (subD 21) (.node (o86 P) .nil .nil) (.node (o118 P) .nil .nil))) (.node (o30 P) (.node (subD 13) (.node (o78 P) .nil .nil) (.node (o110 P) .nil .nil)) (.node (subD 29) (.node (o94 P) .nil .nil) (.node (o126 P) .nil .nil)))))))
noncomputable def S_10 (w : World) (os : OsState) : SharedT := ⟨T_10 w.params, nat_lit 142, {}, #[], {}, nat_lit 2302, os⟩
noncomputable def T_18 (P : Params) : BT := (.node (boot_o_0 P) (.node (boot_o_1 P) (.node (s3_18 P) (.node (boot_o_7 P) (.node (o15 P) (.node (o31 P) (.node (subD 30) (.node (o127 P) .nil .nil) .nil) (.node (o95 P) (.node (o159 P) .nil .nil) .nil)) (.node (subD 14) (.node (o79 P) (.node (o143 P) .nil .nil) .nil) (.node (o111 P) (.node (o175 P) .nil .nil) .nil))) (.node (o23 P) (.node (subD 6) (.node (subL) (.node (o135 P) .nil .nil) .nil) (.node (o103 P) (.node (o167 P) .nil .nil) .nil)) (.node (subD 22) (.node (o87 P) (.node (o151 P) .nil .nil) .nil) (.node (o119 P) (.node (o183 P) .nil .nil) .nil)))) (.node (o11 P) (.node (o19 P) (.node (subD 2) (.node (subD 34) (.node (o131 P) .nil .nil) .nil) (.node (o99 P) (.node (o163 P) .nil .nil) .nil)) (.node (subD 18) (.node (o83 P) (.node (o147 P) .nil .nil) .nil) (.node (o115 P) (.node (o179 P) .nil .nil) .nil))) (.node (o27 P) (.node (subD 10) (.node (o75 P) (.node (o139 P) .nil .nil) .nil) (.node (o107 P) (.node (o171 P) .nil .nil) .nil)) (.node (subD 26) (.node (o91 P) (.node (o155 P) .nil .nil) .nil) (.node (o123 P) (.node (o187 P) .nil .nil) .nil))))) (.node (boot_o_5 P) (.node (boot_o_9 P) (.node (o17 P) (.node (o33 P) (.node (subD 32) (.node (o129 P) .nil .nil) .nil) (.node (o97 P) (.node (o161 P) .nil .nil) .nil)) (.node (subD 16) (.node (o81 P) (.node (o145 P) .nil .nil) .nil) (.node (o113 P) (.node (o177 P) .nil .nil) .nil))) (.node (o25 P) (.node (subD 8) (.node (o73 P) (.node (o137 P) .nil .nil) .nil) (.node (o105 P) (.node (o169 P) .nil .nil) .nil)) (.node (subD 24) (.node (o89 P) (.node (o153 P) .nil .nil) .nil) (.node (o121 P) (.node (o185 P) .nil .nil) .nil)))) (.node (o13 P) (.node (o21 P) (.node (subD 4) (.node (subD 36) (.node (o133 P) .nil .nil) .nil) (.node (o101 P) (.node (o165 P) .nil .nil) .nil)) (.node (subD 20) (.node (o85 P) (.node (o149 P) .nil .nil) .nil) (.node (o117 P) (.node (o181 P) .nil .nil) .nil))) (.node (o29 P) (.node (subD 12) (.node (o77 P) (.node (o141 P) .nil .nil) .nil) (.node (o109 P) (.node (o173 P) .nil .nil) .nil)) (.node (subD 28) (.node (o93 P) (.node (o157 P) .nil .nil) .nil) (.node (o125 P) (.node (o189 P) .nil .nil) .nil)))))) (.node (boot_o_2 P) (.node (boot_o_4 P) (.node (boot_o_8 P) (.node (o16 P) (.node (o32 P) (.node (subD 31) (.node (o128 P) .nil .nil) .nil) (.node (o96 P) (.node (o160 P) .nil .nil) .nil)) (.node (subD 15) (.node (o80 P) (.node (o144 P) .nil .nil) .nil) (.node (o112 P) (.node (o176 P) .nil .nil) .nil))) (.node (o24 P) (.node (subD 7) (.node (o72 P) (.node (o136 P) .nil .nil) .nil) (.node (o104 P) (.node (o168 P) .nil .nil) .nil)) (.node (subD 23) (.node (o88 P) (.node (o152 P) .nil .nil) .nil) (.node (o120 P) (.node (o184 P) .nil .nil) .nil)))) (.node (s12_18 P) (.node (o20 P) (.node (subD 3) (.node (subD 35) (.node (o132 P) .nil .nil) .nil) (.node (o100 P) (.node (o164 P) .nil .nil) .nil)) (.node (subD 19) (.node (o84 P) (.node (o148 P) .nil .nil) .nil) (.node (o116 P) (.node (o180 P) .nil .nil) .nil))) (.node (o28 P) (.node (subD 11) (.node (o76 P) (.node (o140 P) .nil .nil) .nil) (.node (o108 P) (.node (o172 P) .nil .nil) .nil)) (.node (subD 27) (.node (o92 P) (.node (o156 P) .nil .nil) .nil) (.node (o124 P) (.node (o188 P) .nil .nil) .nil))))) (.node (boot_o_6 P) (.node (boot_o_10 P) (.node (o18 P) (.node (subD 1) (.node (subD 33) (.node (o130 P) .nil .nil) .nil) (.node (o98 P) (.node (o162 P) .nil .nil) .nil)) (.node (subD 17) (.node (o82 P) (.node (o146 P) .nil .nil) .nil) (.node (o114 P) (.node (o178 P) .nil .nil) .nil))) (.node (o26 P) (.node (subD 9) (.node (o74 P) (.node (o138 P) .nil .nil) .nil) (.node (o106 P) (.node (o170 P) .nil .nil) .nil)) (.node (subD 25) (.node (o90 P) (.node (o154 P) .nil .nil) .nil) (.node (o122 P) (.node (o186 P) .nil .nil) .nil)))) (.node (o14 P) (.node (o22 P) (.node (subD 5) (.node (subD 37) (.node (o134 P) .nil .nil) .nil) (.node (o102 P) (.node (o166 P) .nil .nil) .nil)) (.node (subD 21) (.node (o86 P) (.node (o150 P) .nil .nil) .nil) (.node (o118 P) (.node (o182 P) .nil .nil) .nil))) (.node (o30 P) (.node (subD 13) (.node (o78 P) (.node (o142 P) .nil .nil) .nil) (.node (o110 P) (.node (o174 P) .nil .nil) .nil)) (.node (subD 29) (.node (o94 P) (.node (o158 P) .nil .nil) .nil) (.node (o126 P) (.node (o190 P) .nil .nil) .nil)))))))
noncomputable def S_18 (w : World) (os : OsState) : SharedT := ⟨T_18 w.params, nat_lit 191, {}, #[], {}, nat_lit 2360, os⟩
noncomputable def T_25 (P : Params) : BT := (.node (boot_o_0 P) (.node (boot_o_1 P) (.node (s3_25 P) (.node (boot_o_7 P) (.node (o15 P) (.node (o31 P) (.node (subD 30) (.node (o127 P) .nil .nil) (.node (o191 P) .nil .nil)) (.node (o95 P) (.node (o159 P) .nil .nil) (.node (o223 P) .nil .nil))) (.node (subD 14) (.node (o79 P) (.node (o143 P) .nil .nil) (.node (o207 P) .nil .nil)) (.node (o111 P) (.node (o175 P) .nil .nil) .nil))) (.node (o23 P) (.node (subD 6) (.node (subL) (.node (o135 P) .nil .nil) (.node (o199 P) .nil .nil)) (.node (o103 P) (.node (o167 P) .nil .nil) .nil)) (.node (subD 22) (.node (o87 P) (.node (o151 P) .nil .nil) (.node (o215 P) .nil .nil)) (.node (o119 P) (.node (o183 P) .nil .nil) .nil)))) (.node (o11 P) (.node (o19 P) (.node (subD 2) (.node (subD 34) (.node (o131 P) .nil .nil) (.node (o195 P) .nil .nil)) (.node (o99 P) (.node (o163 P) .nil .nil) (.node (o227 P) .nil .nil))) (.node (subD 18) (.node (o83 P) (.node (o147 P) .nil .nil) (.node (o211 P) .nil .nil)) (.node (o115 P) (.node (o179 P) .nil .nil) .nil))) (.node (o27 P) (.node (subD 10) (.node (o75 P) (.node (o139 P) .nil .nil) (.node (o203 P) .nil .nil)) (.node (o107 P) (.node (o171 P) .nil .nil) .nil)) (.node (subD 26) (.node (o91 P) (.node (o155 P) .nil .nil) (.node (o219 P) .nil .nil)) (.node (o123 P) (.node (o187 P) .nil .nil) .nil))))) (.node (boot_o_5 P) (.node (boot_o_9 P) (.node (o17 P) (.node (o33 P) (.node (subD 32) (.node (o129 P) .nil .nil) (.node (o193 P) .nil .nil)) (.node (o97 P) (.node (o161 P) .nil .nil) (.node (o225 P) .nil .nil))) (.node (subD 16) (.node (o81 P) (.node (o145 P) .nil .nil) (.node (o209 P) .nil .nil)) (.node (o113 P) (.node (o177 P) .nil .nil) .nil))) (.node (o25 P) (.node (subD 8) (.node (o73 P) (.node (o137 P) .nil .nil) (.node (o201 P) .nil .nil)) (.node (o105 P) (.node (o169 P) .nil .nil) .nil)) (.node (subD 24) (.node (o89 P) (.node (o153 P) .nil .nil) (.node (o217 P) .nil .nil)) (.node (o121 P) (.node (o185 P) .nil .nil) .nil)))) (.node (o13 P) (.node (o21 P) (.node (subD 4) (.node (subD 36) (.node (o133 P) .nil .nil) (.node (o197 P) .nil .nil)) (.node (o101 P) (.node (o165 P) .nil .nil) .nil)) (.node (subD 20) (.node (o85 P) (.node (o149 P) .nil .nil) (.node (o213 P) .nil .nil)) (.node (o117 P) (.node (o181 P) .nil .nil) .nil))) (.node (o29 P) (.node (subD 12) (.node (o77 P) (.node (o141 P) .nil .nil) (.node (o205 P) .nil .nil)) (.node (o109 P) (.node (o173 P) .nil .nil) .nil)) (.node (subD 28) (.node (o93 P) (.node (o157 P) .nil .nil) (.node (o221 P) .nil .nil)) (.node (o125 P) (.node (o189 P) .nil .nil) .nil)))))) (.node (boot_o_2 P) (.node (boot_o_4 P) (.node (boot_o_8 P) (.node (o16 P) (.node (o32 P) (.node (subD 31) (.node (o128 P) .nil .nil) (.node (o192 P) .nil .nil)) (.node (o96 P) (.node (o160 P) .nil .nil) (.node (o224 P) .nil .nil))) (.node (subD 15) (.node (o80 P) (.node (o144 P) .nil .nil) (.node (o208 P) .nil .nil)) (.node (o112 P) (.node (o176 P) .nil .nil) .nil))) (.node (o24 P) (.node (subD 7) (.node (o72 P) (.node (o136 P) .nil .nil) (.node (o200 P) .nil .nil)) (.node (o104 P) (.node (o168 P) .nil .nil) .nil)) (.node (subD 23) (.node (o88 P) (.node (o152 P) .nil .nil) (.node (o216 P) .nil .nil)) (.node (o120 P) (.node (o184 P) .nil .nil) .nil)))) (.node (s12_25 P) (.node (o20 P) (.node (subD 3) (.node (subD 35) (.node (o132 P) .nil .nil) (.node (o196 P) .nil .nil)) (.node (o100 P) (.node (o164 P) .nil .nil) (.node (o228 P) .nil .nil))) (.node (subD 19) (.node (o84 P) (.node (o148 P) .nil .nil) (.node (o212 P) .nil .nil)) (.node (o116 P) (.node (o180 P) .nil .nil) .nil))) (.node (o28 P) (.node (subD 11) (.node (o76 P) (.node (o140 P) .nil .nil) (.node (o204 P) .nil .nil)) (.node (o108 P) (.node (o172 P) .nil .nil) .nil)) (.node (subD 27) (.node (o92 P) (.node (o156 P) .nil .nil) (.node (o220 P) .nil .nil)) (.node (o124 P) (.node (o188 P) .nil .nil) .nil))))) (.node (boot_o_6 P) (.node (boot_o_10 P) (.node (o18 P) (.node (subD 1) (.node (subD 33) (.node (o130 P) .nil .nil) (.node (o194 P) .nil .nil)) (.node (o98 P) (.node (o162 P) .nil .nil) (.node (o226 P) .nil .nil))) (.node (subD 17) (.node (o82 P) (.node (o146 P) .nil .nil) (.node (o210 P) .nil .nil)) (.node (o114 P) (.node (o178 P) .nil .nil) .nil))) (.node (o26 P) (.node (subD 9) (.node (o74 P) (.node (o138 P) .nil .nil) (.node (o202 P) .nil .nil)) (.node (o106 P) (.node (o170 P) .nil .nil) .nil)) (.node (subD 25) (.node (o90 P) (.node (o154 P) .nil .nil) (.node (o218 P) .nil .nil)) (.node (o122 P) (.node (o186 P) .nil .nil) .nil)))) (.node (o14 P) (.node (o22 P) (.node (subD 5) (.node (subD 37) (.node (o134 P) .nil .nil) (.node (o198 P) .nil .nil)) (.node (o102 P) (.node (o166 P) .nil .nil) .nil)) (.node (subD 21) (.node (o86 P) (.node (o150 P) .nil .nil) (.node (o214 P) .nil .nil)) (.node (o118 P) (.node (o182 P) .nil .nil) .nil))) (.node (o30 P) (.node (subD 13) (.node (o78 P) (.node (o142 P) .nil .nil) (.node (o206 P) .nil .nil)) (.node (o110 P) (.node (o174 P) .nil .nil) .nil)) (.node (subD 29) (.node (o94 P) (.node (o158 P) .nil .nil) (.node (o222 P) .nil .nil)) (.node (o126 P) (.node (o190 P) .nil .nil) .nil)))))))
noncomputable def S_25 (w : World) (os : OsState) : SharedT := ⟨T_25 w.params, nat_lit 229, {}, #[], {}, nat_lit 2419, os⟩
noncomputable def T_29 (P : Params) : BT := (.node (boot_o_0 P) (.node (boot_o_1 P) (.node (o3 P) (.node (boot_o_7 P) (.node (o15 P) (.node (o31 P) (.node (subD 30) (.node (o127 P) .nil .nil) (.node (o191 P) .nil .nil)) (.node (o95 P) (.node (o159 P) .nil .nil) (.node (o223 P) .nil .nil))) (.node (subD 14) (.node (o79 P) (.node (o143 P) .nil .nil) (.node (o207 P) .nil .nil)) (.node (o111 P) (.node (o175 P) .nil .nil) (.node (o239 P) .nil .nil)))) (.node (o23 P) (.node (subD 6) (.node (subL) (.node (o135 P) .nil .nil) (.node (o199 P) .nil .nil)) (.node (o103 P) (.node (o167 P) .nil .nil) (.node (o231 P) .nil .nil))) (.node (subD 22) (.node (o87 P) (.node (o151 P) .nil .nil) (.node (o215 P) .nil .nil)) (.node (o119 P) (.node (o183 P) .nil .nil) (.node (o247 P) .nil .nil))))) (.node (o11 P) (.node (o19 P) (.node (subD 2) (.node (subD 34) (.node (o131 P) .nil .nil) (.node (o195 P) .nil .nil)) (.node (o99 P) (.node (o163 P) .nil .nil) (.node (o227 P) .nil .nil))) (.node (subD 18) (.node (o83 P) (.node (o147 P) .nil .nil) (.node (o211 P) .nil .nil)) (.node (o115 P) (.node (o179 P) .nil .nil) (.node (o243 P) .nil .nil)))) (.node (o27 P) (.node (subD 10) (.node (o75 P) (.node (o139 P) .nil .nil) (.node (o203 P) .nil .nil)) (.node (o107 P) (.node (o171 P) .nil .nil) (.node (o235 P) .nil .nil))) (.node (subD 26) (.node (o91 P) (.node (o155 P) .nil .nil) (.node (o219 P) .nil .nil)) (.node (o123 P) (.node (o187 P) .nil .nil) (.node (o251 P) .nil .nil)))))) (.node (boot_o_5 P) (.node (boot_o_9 P) (.node (o17 P) (.node (o33 P) (.node (subD 32) (.node (o129 P) .nil .nil) (.node (o193 P) .nil .nil)) (.node (o97 P) (.node (o161 P) .nil .nil) (.node (o225 P) .nil .nil))) (.node (subD 16) (.node (o81 P) (.node (o145 P) .nil .nil) (.node (o209 P) .nil .nil)) (.node (o113 P) (.node (o177 P) .nil .nil) (.node (o241 P) .nil .nil)))) (.node (o25 P) (.node (subD 8) (.node (o73 P) (.node (o137 P) .nil .nil) (.node (o201 P) .nil .nil)) (.node (o105 P) (.node (o169 P) .nil .nil) (.node (o233 P) .nil .nil))) (.node (subD 24) (.node (o89 P) (.node (o153 P) .nil .nil) (.node (o217 P) .nil .nil)) (.node (o121 P) (.node (o185 P) .nil .nil) (.node (o249 P) .nil .nil))))) (.node (o13 P) (.node (o21 P) (.node (subD 4) (.node (subD 36) (.node (o133 P) .nil .nil) (.node (o197 P) .nil .nil)) (.node (o101 P) (.node (o165 P) .nil .nil) (.node (o229 P) .nil .nil))) (.node (subD 20) (.node (o85 P) (.node (o149 P) .nil .nil) (.node (o213 P) .nil .nil)) (.node (o117 P) (.node (o181 P) .nil .nil) (.node (o245 P) .nil .nil)))) (.node (o29 P) (.node (subD 12) (.node (o77 P) (.node (o141 P) .nil .nil) (.node (o205 P) .nil .nil)) (.node (o109 P) (.node (o173 P) .nil .nil) (.node (o237 P) .nil .nil))) (.node (subD 28) (.node (o93 P) (.node (o157 P) .nil .nil) (.node (o221 P) .nil .nil)) (.node (o125 P) (.node (o189 P) .nil .nil) .nil)))))) (.node (boot_o_2 P) (.node (boot_o_4 P) (.node (boot_o_8 P) (.node (o16 P) (.node (o32 P) (.node (subD 31) (.node (o128 P) .nil .nil) (.node (o192 P) .nil .nil)) (.node (o96 P) (.node (o160 P) .nil .nil) (.node (o224 P) .nil .nil))) (.node (subD 15) (.node (o80 P) (.node (o144 P) .nil .nil) (.node (o208 P) .nil .nil)) (.node (o112 P) (.node (o176 P) .nil .nil) (.node (o240 P) .nil .nil)))) (.node (o24 P) (.node (subD 7) (.node (o72 P) (.node (o136 P) .nil .nil) (.node (o200 P) .nil .nil)) (.node (o104 P) (.node (o168 P) .nil .nil) (.node (o232 P) .nil .nil))) (.node (subD 23) (.node (o88 P) (.node (o152 P) .nil .nil) (.node (o216 P) .nil .nil)) (.node (o120 P) (.node (o184 P) .nil .nil) (.node (o248 P) .nil .nil))))) (.node (s12_29 P) (.node (o20 P) (.node (subD 3) (.node (subD 35) (.node (o132 P) .nil .nil) (.node (o196 P) .nil .nil)) (.node (o100 P) (.node (o164 P) .nil .nil) (.node (o228 P) .nil .nil))) (.node (subD 19) (.node (o84 P) (.node (o148 P) .nil .nil) (.node (o212 P) .nil .nil)) (.node (o116 P) (.node (o180 P) .nil .nil) (.node (o244 P) .nil .nil)))) (.node (o28 P) (.node (subD 11) (.node (o76 P) (.node (o140 P) .nil .nil) (.node (o204 P) .nil .nil)) (.node (o108 P) (.node (o172 P) .nil .nil) (.node (o236 P) .nil .nil))) (.node (subD 27) (.node (o92 P) (.node (o156 P) .nil .nil) (.node (o220 P) .nil .nil)) (.node (o124 P) (.node (o188 P) .nil .nil) (.node (o252 P) .nil .nil)))))) (.node (boot_o_6 P) (.node (boot_o_10 P) (.node (o18 P) (.node (subD 1) (.node (subD 33) (.node (o130 P) .nil .nil) (.node (o194 P) .nil .nil)) (.node (o98 P) (.node (o162 P) .nil .nil) (.node (o226 P) .nil .nil))) (.node (subD 17) (.node (o82 P) (.node (o146 P) .nil .nil) (.node (o210 P) .nil .nil)) (.node (o114 P) (.node (o178 P) .nil .nil) (.node (o242 P) .nil .nil)))) (.node (o26 P) (.node (subD 9) (.node (o74 P) (.node (o138 P) .nil .nil) (.node (o202 P) .nil .nil)) (.node (o106 P) (.node (o170 P) .nil .nil) (.node (o234 P) .nil .nil))) (.node (subD 25) (.node (o90 P) (.node (o154 P) .nil .nil) (.node (o218 P) .nil .nil)) (.node (o122 P) (.node (o186 P) .nil .nil) (.node (o250 P) .nil .nil))))) (.node (o14 P) (.node (o22 P) (.node (subD 5) (.node (subD 37) (.node (o134 P) .nil .nil) (.node (o198 P) .nil .nil)) (.node (o102 P) (.node (o166 P) .nil .nil) (.node (o230 P) .nil .nil))) (.node (subD 21) (.node (o86 P) (.node (o150 P) .nil .nil) (.node (o214 P) .nil .nil)) (.node (o118 P) (.node (o182 P) .nil .nil) (.node (o246 P) .nil .nil)))) (.node (o30 P) (.node (subD 13) (.node (o78 P) (.node (o142 P) .nil .nil) (.node (o206 P) .nil .nil)) (.node (o110 P) (.node (o174 P) .nil .nil) (.node (o238 P) .nil .nil))) (.node (subD 29) (.node (o94 P) (.node (o158 P) .nil .nil) (.node (o222 P) .nil .nil)) (.node (o126 P) (.node (o190 P) .nil .nil) .nil)))))))
noncomputable def S_29 (w : World) (os : OsState) : SharedT := ⟨T_29 w.params, nat_lit 253, {}, #[], {}, nat_lit 2471, os⟩
noncomputable def T_3a (P : Params) : BT := (.node (boot_o_0 P) (.node (boot_o_1 P) (.node (s3_2 P) (.node (boot_o_7 P) (.node (o15 P) (.node (o31 P) (.node (subD 30) .nil .nil) .nil) (.node (subD 14) .nil .nil)) (.node (o23 P) (.node (subD 6) (.node (subL) .nil .nil) .nil) (.node (subD 22) .nil .nil))) (.node (o11 P) (.node (o19 P) (.node (subD 2) (.node (subD 34) .nil .nil) .nil) (.node (subD 18) .nil .nil)) (.node (o27 P) (.node (subD 10) .nil .nil) (.node (subD 26) .nil .nil)))) (.node (boot_o_5 P) (.node (boot_o_9 P) (.node (o17 P) (.node (o33 P) (.node (subD 32) .nil .nil) .nil) (.node (subD 16) .nil .nil)) (.node (o25 P) (.node (subD 8) .nil .nil) (.node (subD 24) .nil .nil))) (.node (o13 P) (.node (o21 P) (.node (subD 4) (.node (subD 36) .nil .nil) .nil) (.node (subD 20) .nil .nil)) (.node (o29 P) (.node (subD 12) .nil .nil) (.node (subD 28) .nil .nil))))) (.node (boot_o_2 P) (.node (boot_o_4 P) (.node (boot_o_8 P) (.node (o16 P) (.node (o32 P) (.node (subD 31) .nil .nil) .nil) (.node (subD 15) .nil .nil)) (.node (o24 P) (.node (subD 7) .nil .nil) (.node (subD 23) .nil .nil))) (.node (s12_2 P) (.node (o20 P) (.node (subD 3) (.node (subD 35) .nil .nil) .nil) (.node (subD 19) .nil .nil)) (.node (o28 P) (.node (subD 11) .nil .nil) (.node (subD 27) .nil .nil)))) (.node (boot_o_6 P) (.node (boot_o_10 P) (.node (o18 P) (.node (subD 1) (.node (subD 33) .nil .nil) .nil) (.node (subD 17) .nil .nil)) (.node (o26 P) (.node (subD 9) .nil .nil) (.node (subD 25) .nil .nil))) (.node (o14 P) (.node (o22 P) (.node (subD 5) (.node (subD 37) .nil .nil) .nil) (.node (subD 21) .nil .nil)) (.node (o30 P) (.node (subD 13) .nil .nil) (.node (subD 29) .nil .nil))))))
noncomputable def S_3a (w : World) (os : OsState) : SharedT := ⟨T_3a w.params, nat_lit 72, {}, #[], {}, nat_lit 2206, os⟩
noncomputable def benv : Env := { scope := Pw'.main.scope, locals := mainNs, globals := mainNs, cells := [], code := .ref 13, frame := some 14 }
noncomputable def bcode : Code := .body (behindTheImports Pw') benv
noncomputable def stsOf (i n : Nat) : List Stmt := (Pw'.main.body.drop i).take n
noncomputable abbrev bstk : List Frame := [topFrame ⟨0, 0, 0, 0⟩]
end Mine

end
section
open PySem PySem.W PyProof.Rows PySem.Calls
namespace Mine
noncomputable abbrev tRun (w : World) (N : Nat) (s : Shared) (t : Thread) : Option Shared := topRun treeTable Pw' w (nat_lit 11) (some (.ref 6)) N s t
/-- a tree runs to a value at the text's top, whatever comes behind it -/
noncomputable def Sg {α : Type} (w : World) (n : Nat) (s : Shared) (p : Pos) (x : Sem α) (s' : Shared) (p' : Pos) (a : α) : Prop :=
  ∀ (K : α → Sem Fin) (H : Value → Sem Fin) (gd : Bool → Bool) (lv : List Value → List Value) (c : Code) (N : Nat) (r : Shared),
    tRun w N s' ⟨K a, c, p', bstk⟩ = some r → tRun w (n + N) s ⟨x.wrap K H gd lv, c, p, bstk⟩ = some r
section
variable {α β : Type} {w : World} {n m : Nat} {s s' s₁ : Shared} {p p' p₁ : Pos} {a : α} {b : β}
theorem Sg.pure : Sg w 0 s p (Sem.pure a) s p a := fun K H gd lv c N r h => by rw [Nat.zero_add]; exact h
theorem Sg.more {x : Sem α} (h : Sg w n s p x s' p' a) (k : n ≤ m) : Sg w m s p x s' p' a := fun K H gd lv c N r hr => by
  have := topRun_mono (m - n) _ _ _ _ (h K H gd lv c N r hr)
  rw [show m + N = n + N + (m - n) by rw [Nat.add_right_comm, Nat.add_sub_of_le k]]
  exact this
theorem Sg.step {x : Sem α} {y : Sem α} (hs : ∀ (K : α → Sem Fin) (H : Value → Sem Fin) (gd : Bool → Bool) (lv : List Value → List Value) (c : Code), stepOk (nat_lit 11) (some (.ref 6)) ⟨x.wrap K H gd lv, c, p, bstk⟩ = true ∧
    step (denote treeTable) Pw' w s ⟨x.wrap K H gd lv, c, p, bstk⟩ = .go s₁ ⟨y.wrap K H gd lv, c, p₁, bstk⟩) (h : Sg w n s₁ p₁ y s' p' a) : Sg w (n + 1) s p x s' p' a := fun K H gd lv c N r hr => by
  have := h K H gd lv c N r hr
  obtain ⟨h1, h2⟩ := hs K H gd lv c
  show topRun _ _ _ _ _ _ _ _ = _
  rw [show n + 1 + N = n + N + 1 by omega]
  unfold topRun
  rw [show through ⟨x.wrap K H gd lv, c, p, bstk⟩ = false from rfl, h1, h2]
  exact this
theorem Sg.bind {x : Sem β} {f : β → Sem α} (h : Sg w n s p x s₁ p₁ b) (g : Sg w m s₁ p₁ (f b) s' p' a) : Sg w (n + m) s p (x.bind f) s' p' a := fun K H gd lv c N r hr => by
  rw [Sem.bind_eq_wrap, Sem.wrap_wrap, Nat.add_assoc]
  exact h _ _ _ _ c _ r (g K H gd lv c N r hr)
theorem Sg.bind' {x : Sem β} {f : β → Sem α} (h : Sg w n s p x s₁ p₁ b) (g : Sg w m s₁ p₁ (f b) s' p' a) : Sg w (n + m) s p (x >>= f) s' p' a := h.bind g
theorem Sg.keep {x : Sem α} (vs : List Value) (h : Sg w n s p x s' p' a) : Sg w n s p (x.keep vs) s' p' a := fun K H gd lv c N r hr => by
  rw [Sem.keep_eq_wrap, Sem.wrap_wrap]
  exact h _ _ _ _ c _ r hr
theorem Sg.holding {x : Sem α} (vs : List Value) (h : Sg w n s p x s' p' a) : Sg w n s p (holding vs x) s' p' a := by
  unfold PySem.holding
  split
  · exact h
  · exact h.keep _
theorem Sg.onRaise {x : Sem α} {f : Value → Sem Unit} (h : Sg w n s p x s' p' a) : Sg w n s p (x.onRaise f) s' p' a := fun K H gd lv c N r hr => by
  rw [Sem.onRaise_eq_wrap, Sem.wrap_wrap]
  exact h _ _ _ _ c _ r hr
theorem Sg.tryCatch {x : Sem α} {f : Value → Sem α} (h : Sg w n s p x s' p' a) : Sg w n s p (x.tryCatch f) s' p' a := fun K H gd lv c N r hr => by
  rw [Sem.tryCatch_eq_wrap, Sem.wrap_wrap]
  exact h _ _ _ _ c _ r hr
theorem Sg.rule {t : String} {k : Unit → Sem α} (h : Sg w n s p (k ()) s' p' a) : Sg w (n + 1) s p (.rule t k) s' p' a := Sg.step (fun K H gd lv c => ⟨rfl, rfl⟩) h
theorem Sg.at {q : Pos} {k : Unit → Sem α} (h : Sg w n s q (k ()) s' p' a) : Sg w (n + 1) s p (.at q k) s' p' a := Sg.step (fun K H gd lv c => ⟨rfl, rfl⟩) h
theorem Sg.point {l : List Value} {k : Unit → Sem α} (h : Sg w n s p (k ()) s' p' a) : Sg w (n + 1) s p (.point l k) s' p' a := Sg.step (fun K H gd lv c => ⟨rfl, rfl⟩) h
theorem Sg.fresh {k : Tok → Sem α} (h : Sg w n { s with toks := s.toks + 1 } p (k s.toks) s' p' a) : Sg w (n + 1) s p (.fresh k) s' p' a := Sg.step (fun K H gd lv c => ⟨rfl, rfl⟩) h
theorem Sg.ask {k : Setting → Sem α} (h : Sg w n s p (k ⟨Pw', w.params⟩) s' p' a) : Sg w (n + 1) s p (.ask k) s' p' a := Sg.step (fun K H gd lv c => ⟨rfl, rfl⟩) h
theorem Sg.load {d : Addr} {q : Option Value} {o : Obj} {k : Obj → Sem α} (e : s.heap.get? d = some o) (h : Sg w n s p (k o) s' p' a) : Sg w (n + 1) s p (.load d q k) s' p' a :=
  Sg.step (fun K H gd lv c => ⟨rfl, by obtain ⟨hh, ge, dr, tk, os⟩ := s; simp only [Sem.wrap, PySem.step, show hh.get? d = some o from e]⟩) h
theorem Sg.alloc {o : Obj} {k : Addr → Sem α} (h : Sg w n { s with heap := s.heap.push o } p (k s.heap.objs.size) s' p' a) : Sg w (n + 1) s p (.alloc o k) s' p' a := Sg.step (fun K H gd lv c => ⟨rfl, rfl⟩) h
theorem Sg.update {d : Addr} {q : Option Value} {o : Obj} {f : Obj → Obj} {k : Unit → Sem α} (e : s.heap.get? d = some o) (hd : Nat.ble (nat_lit 11) d = true) (h : Sg w n { s with heap := s.heap.update d f } p (k ()) s' p' a) : Sg w (n + 1) s p (.update d q f k) s' p' a :=
  Sg.step (fun K H gd lv c => ⟨by simp [stepOk, Sem.wrap, hd]; rfl, by obtain ⟨hh, ge, dr, tk, os⟩ := s; simp only [Sem.wrap, PySem.step, show hh.get? d = some o from e, Option.isSome_some, if_true]⟩) h
/-- what the kernel has run -/
theorem Sg.of_run {x : Sem α} (res : α → Flow) (f : Flow) (hi : ∀ a', res a' = f → a' = a)
    (h : ∀ (gd : Bool → Bool) (lv : List Value → List Value) (c : Code), segRun treeTable Pw' w (nat_lit 11) (some (.ref 6)) 1 n s ⟨x.wrap (fun a => .pure (.done (res a))) deadEnd gd lv, c, p, bstk⟩ = some (f, s', c, p')) : Sg w n s p x s' p' a := fun K H gd lv c N r hr => by
  obtain ⟨a', ha, hN⟩ := seg_top (res := res) (K' := K) (H' := H) (gd := gd) (lv := lv) (B := bstk) rfl n s ⟨x.wrap (fun a => .pure (.done (res a))) deadEnd gd lv, c, p, bstk⟩ ⟨x.wrap K H gd lv, c, p, bstk⟩ _ _ _ _ ⟨rfl, rfl, .inl ⟨rfl, rfl, x, rfl, rfl⟩⟩ (h gd lv c)
  rw [hi a' ha] at hN
  exact hN N r hr
end
end Mine

end
section
open PySem PySem.W PyProof.Rows PySem.Calls
namespace Mine
section
variable {w : World} {s : Shared} {p : Pos} {d : Addr} {es : List DictEntry} {n : Nat} {q : Option Value}
theorem sg_entries (e : s.heap.get? d = some (dOb es n)) : Sg w 1 s p (dictEntries d q) s p es.toArray := by
  unfold dictEntries
  refine Sg.bind' (n := 1) (m := 0) (Sg.load e Sg.pure) ?_
  exact Sg.pure
theorem sg_epoch (e : s.heap.get? d = some (dOb es n)) : Sg w 1 s p (dictEpoch d q) s p n := by
  unfold dictEpoch
  refine Sg.bind' (n := 1) (m := 0) (Sg.load e Sg.pure) ?_
  exact Sg.pure
theorem sg_find {k h : Int} {t : Tok} (e : s.heap.get? d = some (dOb es n)) (hf : ∀ x ∈ es, x.hash ≠ h) : Sg w 1 s p (dictFind d (.int k t) h) s p none := by
  have hp : placesWithHash es.toArray.size (fun i => es.toArray[i]?.map (·.hash)) h = [] := by
    unfold placesWithHash
    rw [List.filter_eq_nil_iff]
    intro i hi
    rw [List.mem_range, List.size_toArray] at hi
    dsimp only
    rw [List.getElem?_toArray, List.getElem?_eq_getElem hi]
    have := hf _ (List.getElem_mem hi)
    simp [this]
  unfold dictFind
  refine Sg.holding _ ?_
  refine Sg.bind' (n := 1) (m := 0) (sg_entries e) ?_
  dsimp only
  rw [hp]
  exact Sg.pure
theorem sg_push {x : DictEntry} (e : s.heap.get? d = some (dOb es n)) (hd : Nat.ble (nat_lit 11) d = true) (hs : es.length < 1000) :
    Sg w 3 s p (updateDictKeys d (·.push x) q) { s with heap := s.heap.update d (Obj.mapDictKeys (·.push x)) } p () := by
  have e2 : (s.heap.update d (Obj.mapDictKeys (·.push x))).get? d = some (Obj.mapDictKeys (·.push x) (dOb es n)) := Heap.get?_update_self _ e rfl
  unfold updateDictKeys
  refine Sg.bind' (n := 1) (m := 2) (Sg.load e Sg.pure) ?_
  dsimp only
  refine Sg.bind' (n := 1) (m := 1) (Sg.update e hd Sg.pure) ?_
  unfold lookBehind
  refine Sg.bind' (n := 1) (m := 0) (Sg.load e2 Sg.pure) ?_
  have hl : Data.pastItsLine (Obj.mapDictKeys (·.push x) (dOb es n)).data = none := by
    show (if (es.toArray.push x).size > sizeLine + 1 then some "dict:memory" else none) = none
    rw [if_neg]
    rw [Array.size_push, List.size_toArray, sizeLine_eq]
    omega
  rw [hl]
  exact Sg.pure
theorem sg_put {k h : Int} {t : Tok} {v : Value} (e : s.heap.get? d = some (dOb es n)) (hd : Nat.ble (nat_lit 11) d = true) (hs : es.length < 1000) (hf : ∀ x ∈ es, x.hash ≠ h) :
    Sg w 4 s p (dictPut d h (.int k t) v) { s with heap := s.heap.update d (Obj.mapDictKeys (·.push ⟨h, .int k t, v⟩)) } p () := by
  unfold dictPut
  exact Sg.bind' (n := 1) (m := 3) (sg_find e hf) (sg_push e hd hs)
theorem sg_callhash (k : Int) (t : Tok) : Sg w 6 s p (call (.builtin "int.__hash__") [.int k t]) { s with toks := s.toks + 1 } p (.int (rawHash k) s.toks) := by
  obtain ⟨hh, ge, dr, tk, os⟩ := s
  exact Sg.of_run (fun v => .ret v) (.ret (.int (rawHash k) tk)) (fun a' h => by injection h) (fun gd lv c => by rw [PySem.W.Fast.te14374325043358763698, PySem.W.Fast.te14364793385576792824]; kernel_rfl)
theorem raw_small {k : Int} (h0 : 0 ≤ k) (h1 : k < 2 ^ 60) : rawHash k = k := by
  unfold rawHash
  have e : ((k.natAbs : Int) % ((2 ^ 61 - 1 : Nat) : Int)) = k := by
    rw [Int.emod_eq_of_lt (by omega) (by omega)]
    omega
  simp only [e]
  rw [if_neg (by omega : ¬ k < 0)]
  rw [if_neg]
  intro h
  rw [beq_iff_eq] at h
  omega
theorem int_hash_special (k : Int) (t : Tok) : specialOf (.int k t) "__hash__" = pure (some (.builtin "int.__hash__")) := by
  show typeLookup (.type "int") "__hash__" = _
  rw [typeLookup_type, builtinLookup_eq_fast]; kernel_rfl
theorem hash_bound (v : Value) : bindSpecial (.builtin "int.__hash__") v = pure (.builtin "int.__hash__", [v]) := by kernel_rfl
theorem sg_hash {k : Int} {t : Tok} (h0 : 0 ≤ k) (h1 : k < 2 ^ 60) : Sg w 7 s p (pyHash (.int k t)) { s with toks := s.toks + 1 } p k := by
  show Sg w 7 s p (pyHashByItsType (.int k t)) _ p k
  unfold pyHashByItsType
  rw [int_hash_special]
  refine Sg.bind' (n := 0) (m := 7) (b := ()) Sg.pure ?_
  refine Sg.bind' (n := 0) (m := 7) (b := some (.builtin "int.__hash__")) Sg.pure ?_
  refine Sg.bind' (n := 0) (m := 7) (b := some (.builtin "int.__hash__")) Sg.pure ?_
  refine Sg.bind' (n := 7) (m := 0) (b := some (.int (rawHash k) s.toks)) (s₁ := { s with toks := s.toks + 1 }) (p₁ := p) ?_ ?_
  · unfold callSpecialIfBoundUnlessNone?
    refine Sg.holding _ ?_
    unfold bindSpecialIfBound?
    rw [int_hash_special]
    refine Sg.bind' (n := 1) (m := 6) (b := some (.builtin "int.__hash__", [.int k t])) (s₁ := s) (p₁ := p) ?_ ?_
    · refine Sg.bind' (n := 0) (m := 1) (b := some (.builtin "int.__hash__")) Sg.pure ?_
      dsimp only
      rw [hash_bound]
      refine Sg.ask ?_
      refine Sg.bind (n := 0) (m := 0) Sg.pure ?_
      cases h : w.params.followText "special-get-raises"
      · rw [if_neg (by decide)]
        exact Sg.tryCatch Sg.pure
      · rw [if_pos rfl]
        exact Sg.pure
    · exact Sg.bind' (n := 6) (m := 0) (sg_callhash k t) Sg.pure
  · dsimp only
    unfold pyHashByItsType.reduced
    rw [raw_small h0 h1]
    have c : (decide (-(2 ^ 63 : Int) ≤ k) && decide (k < 2 ^ 63)) = true := by
      rw [Bool.and_eq_true, decide_eq_true_eq, decide_eq_true_eq]; omega
    rw [if_pos c]
    have c2 : (k == -1) = false := by rw [beq_eq_false_iff_ne]; omega
    rw [c2]
    exact Sg.pure
theorem sg_set {k : Int} {t : Tok} {v : Value} (h0 : 0 ≤ k) (h1 : k < 2 ^ 60) (e : s.heap.get? d = some (dOb es n)) (hd : Nat.ble (nat_lit 11) d = true) (hs : es.length < 1000) (hf : ∀ x ∈ es, x.hash ≠ k) :
    Sg w 12 s p (dictSet d (.int k t) v) { s with heap := s.heap.update d (Obj.mapDictKeys (·.push ⟨k, .int k t, v⟩)), toks := s.toks + 1 } p () := by
  unfold dictSet
  refine Sg.holding _ ?_
  refine Sg.bind' (n := 7) (m := 5) (sg_hash h0 h1) ?_
  unfold dictSetHashed
  refine Sg.holding _ ?_
  refine Sg.bind' (n := 1) (m := 4) (sg_find e hf) ?_
  dsimp only
  refine Sg.bind' (n := 1) (m := 3) (Sg.rule Sg.pure) ?_
  exact sg_push e hd hs
end
end Mine

end
section
open PySem PySem.W PyProof.Rows PySem.Calls
namespace Mine
noncomputable def hp (l : List Obj) : Heap := ⟨l.toArray, {}⟩
theorem hp_push (l : List Obj) (o : Obj) : (hp l).push o = hp (l ++ [o]) := by
  show Heap.mk (l.toArray.push o) {} = _
  rw [List.push_toArray]; rfl
theorem hp_size (l : List Obj) : (hp l).objs.size = l.length := by show l.toArray.size = _; simp
theorem hp_get {l : List Obj} {i : Nat} {o : Obj} (h : l[i]? = some o) (hf : o.isFreed = false) : (hp l).get? i = some o := by
  unfold Heap.get? hp
  rw [List.getElem?_toArray, h]
  obtain ⟨c, d, dt, sl⟩ := o
  cases dt <;> first | rfl | cases hf
theorem modify_at (f : Obj → Obj) (a : Obj) (r : List Obj) : ∀ l : List Obj, (l ++ a :: r).modify l.length f = l ++ f a :: r
  | [] => by simp [List.modify_cons]
  | x :: l => by
    have := modify_at f a r l
    simp [List.modify_cons, this]
theorem hp_update (l : List Obj) (a b : Obj) (f : Obj → Obj) (r : List Obj) (e : f a = b) : (hp (l ++ a :: r)).update l.length f = hp (l ++ b :: r) := by
  show Heap.mk ((l ++ a :: r).toArray.modify l.length f) {} = _
  have : (l ++ a :: r).toArray.modify l.length f = (l ++ b :: r).toArray := by
    apply Array.ext'
    rw [Array.toList_modify]
    show (l ++ a :: r).modify l.length f = _
    rw [modify_at, e]
  rw [this]; rfl
noncomputable def incr : Int → List (Int × Str) → Bool
  | _, [] => true
  | lo, (k, _) :: r => decide (lo < k) && decide (k < 2 ^ 60) && incr k r
noncomputable def lastOf : Int → List (Int × Str) → Int
  | lo, [] => lo
  | _, (k, _) :: r => lastOf k r
theorem ents_len (c : Nat) : ∀ (k : Nat) (ps : List (Int × Str)), (ents c k ps).length = ps.length
  | _, [] => rfl
  | k, (i, x) :: r => by rw [ents, List.length_cons, ents_len c (k + c) r, List.length_cons]
noncomputable abbrev kTree (k : Int) : Sem Value := mkInt k
noncomputable abbrev vTree (pos : Pos) (x : Str) : Sem Value := do let v ← mkText x; standAt pos; pure v
noncomputable abbrev pTree (pos : Pos) (z : Int × Str) : Sem Value × Sem Value := (kTree z.1, vTree pos z.2)
section
variable {w : World} {pos : Pos} {ge : Array GenState} {dr : Drawn} {os : OsState}
theorem sg_k {k : Int} {h : Heap} {t : Nat} : Sg w 1 ⟨h, ge, dr, t, os⟩ pos (kTree k) ⟨h, ge, dr, t + 1, os⟩ pos (.int k t) := Sg.fresh Sg.pure
theorem sg_v {x : Str} {h : Heap} {t : Nat} : Sg w 2 ⟨h, ge, dr, t, os⟩ pos (vTree pos x) ⟨h, ge, dr, t + 1, os⟩ pos (.str x t) :=
  Sg.bind' (n := 1) (m := 1) (Sg.fresh Sg.pure) (Sg.bind' (n := 1) (m := 0) (Sg.at Sg.pure) Sg.pure)
theorem sg_long (l : List Obj) (hl : 11 ≤ l.length) : ∀ (ps : List (Int × Str)) (lo : Int) (es : List DictEntry) (n t : Nat), incr lo ps = true → 0 ≤ lo + 1 → (∀ e ∈ es, e.hash ≤ lo) → es.length + ps.length < 1000 →
    Sg w (15 * ps.length) ⟨hp (l ++ [dOb es n]), ge, dr, t, os⟩ pos (forIn (ps.map (pTree pos)) PUnit.unit fun (x : Sem Value × Sem Value) (__s : PUnit) => (do
      let kv ← x.fst
      let vv ← holding [kv] x.snd
      holding [kv, vv] (dictSet l.length kv vv)
      pure (ForInStep.yield PUnit.unit) : Sem (ForInStep PUnit))) ⟨hp (l ++ [dOb (es ++ ents 3 t ps) (n + ps.length)]), ge, dr, t + 3 * ps.length, os⟩ pos PUnit.unit
  | [], lo, es, n, t, _, _, _, _ => by
    rw [ents, List.append_nil]
    exact Sg.pure
  | (k, x) :: r, lo, es, n, t, hi, h0, he, hs => by
    unfold incr at hi
    simp only [Bool.and_eq_true, decide_eq_true_eq] at hi
    obtain ⟨⟨i1, i2⟩, i3⟩ := hi
    rw [List.length_cons] at hs
    rw [List.map_cons, List.forIn_cons]
    refine Sg.more (n := 15 + 15 * r.length) ?_ (by rw [List.length_cons]; omega)
    have step : Sg w 15 ⟨hp (l ++ [dOb es n]), ge, dr, t, os⟩ pos (do
      let kv ← kTree k
      let vv ← holding [kv] (vTree pos x)
      holding [kv, vv] (dictSet l.length kv vv)
      pure (ForInStep.yield PUnit.unit) : Sem (ForInStep PUnit)) ⟨hp (l ++ [dOb (es ++ [⟨k, .int k t, .str x (t + 1)⟩]) (n + 1)]), ge, dr, t + 3, os⟩ pos (.yield PUnit.unit) := by
      refine Sg.bind' (n := 1) (m := 14) sg_k ?_
      refine Sg.bind' (n := 2) (m := 12) (Sg.holding _ sg_v) ?_
      refine Sg.bind' (n := 12) (m := 0) (s₁ := ⟨hp (l ++ [dOb (es ++ [⟨k, .int k t, .str x (t + 1)⟩]) (n + 1)]), ge, dr, t + 3, os⟩) (p₁ := pos) (b := ()) (Sg.holding _ ?_) Sg.pure
      have := sg_set (w := w) (s := ⟨hp (l ++ [dOb es n]), ge, dr, t + 1 + 1, os⟩) (p := pos) (d := l.length) (es := es) (n := n) (k := k) (t := t) (v := .str x (t + 1)) (by omega) i2 (hp_get (by simp) rfl) (by rw [Nat.ble_eq]; exact hl) (by omega) (fun y hy => by have := he y hy; omega)
      rw [hp_update l (dOb es n) (dOb (es ++ [⟨k, .int k t, .str x (t + 1)⟩]) (n + 1)) _ [] (by simp [Obj.mapDictKeys])] at this
      exact this
    refine Sg.bind' (n := 15) (m := 15 * r.length) step ?_
    have := sg_long l hl r k (es ++ [⟨k, .int k t, .str x (t + 1)⟩]) (n + 1) (t + 3) i3 (by omega) (by
      intro e h
      rcases List.mem_append.mp h with h | h
      · have := he e h; omega
      · rw [List.mem_singleton.mp h]; exact Int.le_refl _) (by simp; omega)
    rw [List.append_assoc, List.singleton_append, show n + 1 + r.length = n + (r.length + 1) by omega, show t + 3 + 3 * r.length = t + 3 * (r.length + 1) by omega] at this
    exact this
end
end Mine

end
section
open PySem PySem.W PyProof.Rows PySem.Calls
namespace Mine
/-- entries by keys that rise -/
noncomputable def incrE : Int → List DictEntry → Prop
  | _, [] => True
  | lo, e :: r => lo < e.hash ∧ (∃ k t, e.key = .int k t) ∧ incrE e.hash r
theorem incrE_of (c : Nat) : ∀ (ps : List (Int × Str)) (lo : Int) (t : Nat), incr lo ps = true → incrE lo (ents c t ps)
  | [], _, _, _ => trivial
  | (k, x) :: r, lo, t, h => by
    unfold incr at h
    simp only [Bool.and_eq_true, decide_eq_true_eq] at h
    exact ⟨h.1.1, ⟨k, t, rfl⟩, incrE_of c r k (t + c) h.2⟩
theorem incrE_gt : ∀ {lo : Int} {es : List DictEntry}, incrE lo es → ∀ e ∈ es, lo < e.hash
  | _, [], _, _, h => nomatch h
  | lo, e :: r, h, x, hx => by
    rcases List.mem_cons.mp hx with rfl | hx
    · exact h.1
    · exact Int.lt_trans h.1 (incrE_gt h.2.2 x hx)
theorem sub_dict : isSubtype (.type "dict") (.type "dict") = pure true := by rw [isSubtype_type]; kernel_rfl
theorem dict_iter : typeLookup (.type "dict") "__iter__" = pure (some (.builtin "dict.__iter__")) := by rw [typeLookup_type, builtinLookup_eq_fast]; kernel_rfl
section
variable {w : World} {pos : Pos} {ge : Array GenState} {dr : Drawn} {os : OsState}
theorem sg_mloop {es2 : List DictEntry} {St : List DictEntry → Nat → Shared} (F : Nat → PUnit → Sem (ForInStep PUnit))
    (hF : ∀ (pre post : List DictEntry) (e : DictEntry) (es : List DictEntry) (n : Nat), pre ++ e :: post = es2 → (∃ k t, e.key = .int k t) → (∀ x ∈ es, x.hash ≠ e.hash) → es.length < 999 → Sg w 6 (St es n) pos (F pre.length ()) (St (es ++ [e]) (n + 1)) pos (.yield PUnit.unit)) :
    ∀ (post pre : List DictEntry) (lo : Int) (es : List DictEntry) (n : Nat), pre ++ post = es2 → incrE lo post → (∀ x ∈ es, x.hash ≤ lo) → es.length + post.length < 999 →
      Sg w (6 * post.length) (St es n) pos (forIn (List.range' pre.length post.length) PUnit.unit F) (St (es ++ post) (n + post.length)) pos PUnit.unit
  | [], pre, lo, es, n, _, _, _, _ => by
    rw [List.append_nil]
    exact Sg.pure
  | e :: r, pre, lo, es, n, h1, h2, h3, h4 => by
    rw [List.length_cons] at h4
    obtain ⟨i1, i2, i3⟩ := h2
    rw [List.length_cons, List.range'_succ, List.forIn_cons]
    refine Sg.more (n := 6 + 6 * r.length) ?_ (by omega)
    refine Sg.bind' (n := 6) (m := 6 * r.length) (hF pre r e es n h1 i2 (fun x hx => by have := h3 x hx; omega) (by omega)) ?_
    have := sg_mloop F hF r (pre ++ [e]) e.hash (es ++ [e]) (n + 1) (by rw [List.append_assoc]; exact h1) i3 (by
      intro x h
      rcases List.mem_append.mp h with h | h
      · have := h3 x h; omega
      · rw [List.mem_singleton.mp h]; exact Int.le_refl _) (by simp; omega)
    rw [List.append_assoc, List.singleton_append, show n + 1 + r.length = n + (r.length + 1) by omega, List.length_append, List.length_singleton] at this
    exact this
/-- a finished run of pairs is laid into the table -/
theorem sg_merge (b subs : List Obj) (es es2 : List DictEntry) (n n2 t : Nat) (lo : Int) (hb : 11 ≤ b.length) (hne : es ≠ []) (hi : incrE lo es2) (he : ∀ x ∈ es, x.hash ≤ lo) (hs : es.length + es2.length < 999) :
    Sg w (6 * es2.length + 6) ⟨hp (b ++ dOb es n :: (subs ++ [dOb es2 n2])), ge, dr, t, os⟩ pos (mergeMapping b.length (.ref (b.length + 1 + subs.length)) false)
      ⟨hp (b ++ dOb (es ++ es2) (n + es2.length) :: (subs ++ [dOb es2 n2])), ge, dr, t, os⟩ pos () := by
  have gm : ∀ es n, (hp (b ++ dOb es n :: (subs ++ [dOb es2 n2]))).get? b.length = some (dOb es n) := fun es n => hp_get (by simp) rfl
  have ga : ∀ es n, (hp (b ++ dOb es n :: (subs ++ [dOb es2 n2]))).get? (b.length + 1 + subs.length) = some (dOb es2 n2) := fun es n => hp_get (by
    rw [List.getElem?_append_right (by omega), show b.length + 1 + subs.length - b.length = subs.length + 1 by omega, List.getElem?_cons_succ, List.getElem?_append_right (by omega)]
    simp) rfl
  unfold mergeMapping
  dsimp only
  refine Sg.more (n := 1 + (1 + (1 + (1 + (1 + 6 * es2.length))))) ?_ (by omega)
  refine Sg.bind' (n := 1) (b := true) (s₁ := ⟨hp (b ++ dOb es n :: (subs ++ [dOb es2 n2])), ge, dr, t, os⟩) (p₁ := pos) ?_ ?_
  · unfold isInstance
    refine Sg.bind' (n := 1) (m := 0) (b := .type "dict") (Sg.bind' (n := 1) (m := 0) (Sg.load (ga es n) Sg.pure) Sg.pure) ?_
    rw [sub_dict]
    exact Sg.pure
  rw [if_pos rfl]
  refine Sg.bind' (n := 1) (b := some (.builtin "dict.__iter__")) (s₁ := ⟨hp (b ++ dOb es n :: (subs ++ [dOb es2 n2])), ge, dr, t, os⟩) (p₁ := pos) ?_ ?_
  · unfold specialOf
    refine Sg.bind' (n := 1) (m := 0) (b := .type "dict") (Sg.bind' (n := 1) (m := 0) (Sg.load (ga es n) Sg.pure) Sg.pure) ?_
    rw [show typeLookup (.type "dict") (Str.ofString "__iter__") = _ from dict_iter]
    exact Sg.pure
  refine Sg.more (n := 0 + (1 + (1 + (1 + 6 * es2.length)))) (Sg.bind' (n := 0) (m := 1 + (1 + (1 + 6 * es2.length))) (b := true) (s₁ := ⟨hp (b ++ dOb es n :: (subs ++ [dOb es2 n2])), ge, dr, t, os⟩) (p₁ := pos) (show Sg w 0 _ pos (Sem.pure _) _ pos _ from by rw [show (some (Value.builtin "dict.__iter__") == some (Value.builtin "dict.__iter__")) = true from by simp]; exact Sg.pure) ?_) (by omega)
  dsimp only
  rw [if_neg (by simp only [sysModules, beq_iff_eq]; exact fun h => by have h2 : (b.length + 1 + subs.length : Nat) = 1 := h; omega)]
  refine Sg.bind' (n := 1) (sg_entries (s := ⟨hp (b ++ dOb es n :: (subs ++ [dOb es2 n2])), ge, dr, t, os⟩) (gm es n)) ?_
  rw [if_neg (by simpa using hne)]
  refine Sg.bind' (n := 1) (sg_entries (s := ⟨hp (b ++ dOb es n :: (subs ++ [dOb es2 n2])), ge, dr, t, os⟩) (ga es n)) ?_
  refine Sg.bind' (n := 1) (sg_epoch (s := ⟨hp (b ++ dOb es n :: (subs ++ [dOb es2 n2])), ge, dr, t, os⟩) (ga es n)) ?_
  rw [List.size_toArray, List.range_eq_range']
  refine Sg.bind' (n := 6 * es2.length) (m := 0) (sg_mloop (es2 := es2) (St := fun es n => ⟨hp (b ++ dOb es n :: (subs ++ [dOb es2 n2])), ge, dr, t, os⟩) _ ?_ es2 [] lo es n rfl hi he hs) Sg.pure
  rintro pre post e es n rfl ⟨k, u, hk⟩ hx hs
  refine Sg.bind' (n := 1) (m := 5) (sg_entries (s := ⟨hp (b ++ dOb es n :: (subs ++ [dOb (pre ++ e :: post) n2])), ge, dr, t, os⟩) (ga es n)) ?_
  rw [List.getElem?_toArray, List.getElem?_append_right (Nat.le_refl _), Nat.sub_self]
  rw [List.getElem?_cons_zero]
  dsimp only
  rw [hk]
  rw [if_neg (by decide)]
  refine Sg.bind' (n := 4) (m := 1) (b := ()) (s₁ := ⟨hp (b ++ dOb (es ++ [e]) (n + 1) :: (subs ++ [dOb (pre ++ e :: post) n2])), ge, dr, t, os⟩) (p₁ := pos) (Sg.holding _ ?_) ?_
  · have := sg_put (w := w) (s := ⟨hp (b ++ dOb es n :: (subs ++ [dOb (pre ++ e :: post) n2])), ge, dr, t, os⟩) (p := pos) (d := b.length) (es := es) (n := n) (h := e.hash) (k := k) (t := u) (v := e.val) (gm es n) (by rw [Nat.ble_eq]; exact hb) (by omega) hx
    rw [hp_update b (dOb es n) (dOb (es ++ [e]) (n + 1)) _ _ (by
      obtain ⟨eh, ek, ev⟩ := e
      subst hk
      simp [Obj.mapDictKeys])] at this
    exact this
  · refine Sg.bind' (n := 1) (m := 0) (sg_epoch (s := ⟨hp (b ++ dOb (es ++ [e]) (n + 1) :: (subs ++ [dOb (pre ++ e :: post) n2])), ge, dr, t, os⟩) (ga _ _)) ?_
    rw [if_neg (by simp)]
    exact Sg.pure
end
end Mine

end
section
open PySem PySem.W PyProof.Rows PySem.Calls
namespace Mine
noncomputable def vals : Nat → List (Int × Str) → List (Value × Value)
  | _, [] => []
  | t, (k, x) :: r => (.int k t, .str x (t + 1)) :: vals (t + 2) r
section
variable {w : World} {pos : Pos} {ge : Array GenState} {dr : Drawn} {os : OsState}
theorem sg_pairs {h : Heap} : ∀ (ps : List (Int × Str)) (t : Nat), Sg w (3 * ps.length) ⟨h, ge, dr, t, os⟩ pos (evalPairs (ps.map (pTree pos))) ⟨h, ge, dr, t + 2 * ps.length, os⟩ pos (vals t ps)
  | [], t => Sg.pure
  | (k, x) :: r, t => by
    rw [List.map_cons]
    show Sg w _ _ pos (evalPairs ((kTree k, vTree pos x) :: _)) _ pos _
    rw [evalPairs]
    refine Sg.more (n := 1 + (2 + (3 * r.length + 0))) ?_ (by rw [List.length_cons]; omega)
    refine Sg.bind' (n := 1) sg_k ?_
    refine Sg.bind' (n := 2) (Sg.holding _ sg_v) ?_
    have := sg_pairs (h := h) r (t + 1 + 1)
    rw [show t + 1 + 1 + 2 * r.length = t + 2 * (r.length + 1) by omega] at this
    exact Sg.bind' (n := 3 * r.length) (m := 0) (Sg.holding _ this) Sg.pure
theorem sg_store (l : List Obj) (hl : 11 ≤ l.length) : ∀ (ps : List (Int × Str)) (lo : Int) (es : List DictEntry) (n t u : Nat), incr lo ps = true → 0 ≤ lo + 1 → (∀ e ∈ es, e.hash ≤ lo) → es.length + ps.length < 1000 →
    Sg w (12 * ps.length) ⟨hp (l ++ [dOb es n]), ge, dr, u, os⟩ pos (forIn (vals t ps) PUnit.unit fun (x : Value × Value) (__s : PUnit) => (do
      dictSet l.length x.fst x.snd
      pure (ForInStep.yield PUnit.unit) : Sem (ForInStep PUnit))) ⟨hp (l ++ [dOb (es ++ ents 2 t ps) (n + ps.length)]), ge, dr, u + ps.length, os⟩ pos PUnit.unit
  | [], lo, es, n, t, u, _, _, _, _ => by
    rw [ents, List.append_nil]
    exact Sg.pure
  | (k, x) :: r, lo, es, n, t, u, hi, h0, he, hs => by
    unfold incr at hi
    simp only [Bool.and_eq_true, decide_eq_true_eq] at hi
    obtain ⟨⟨i1, i2⟩, i3⟩ := hi
    rw [List.length_cons] at hs
    rw [vals, List.forIn_cons]
    refine Sg.more (n := 12 + 12 * r.length) ?_ (by rw [List.length_cons]; omega)
    have step : Sg w 12 ⟨hp (l ++ [dOb es n]), ge, dr, u, os⟩ pos (do
      dictSet l.length (.int k t) (.str x (t + 1))
      pure (ForInStep.yield PUnit.unit) : Sem (ForInStep PUnit)) ⟨hp (l ++ [dOb (es ++ [⟨k, .int k t, .str x (t + 1)⟩]) (n + 1)]), ge, dr, u + 1, os⟩ pos (.yield PUnit.unit) := by
      refine Sg.bind' (n := 12) (m := 0) (s₁ := ⟨hp (l ++ [dOb (es ++ [⟨k, .int k t, .str x (t + 1)⟩]) (n + 1)]), ge, dr, u + 1, os⟩) (p₁ := pos) (b := ()) ?_ Sg.pure
      have := sg_set (w := w) (s := ⟨hp (l ++ [dOb es n]), ge, dr, u, os⟩) (p := pos) (d := l.length) (es := es) (n := n) (k := k) (t := t) (v := .str x (t + 1)) (by omega) i2 (hp_get (by simp) rfl) (by rw [Nat.ble_eq]; exact hl) (by omega) (fun y hy => by have := he y hy; omega)
      rw [hp_update l (dOb es n) (dOb (es ++ [⟨k, .int k t, .str x (t + 1)⟩]) (n + 1)) _ [] (by simp [Obj.mapDictKeys])] at this
      exact this
    refine Sg.bind' (n := 12) (m := 12 * r.length) step ?_
    have := sg_store l hl r k (es ++ [⟨k, .int k t, .str x (t + 1)⟩]) (n + 1) (t + 2) (u + 1) i3 (by omega) (by
      intro e h
      rcases List.mem_append.mp h with h | h
      · have := he e h; omega
      · rw [List.mem_singleton.mp h]; exact Int.le_refl _) (by simp; omega)
    rw [List.append_assoc, List.singleton_append, show n + 1 + r.length = n + (r.length + 1) by omega, show u + 1 + r.length = u + (r.length + 1) by omega] at this
    exact this
theorem sg_sub17 (l : List Obj) (hl : 11 ≤ l.length) (ps : List (Int × Str)) (lo : Int) (t : Nat) (h17 : ps.length = 17) (hi : incr lo ps = true) (h0 : 0 ≤ lo + 1) :
    Sg w 260 ⟨hp l, ge, dr, t, os⟩ pos (subDict (ps.map (pTree pos))) ⟨hp (l ++ [dOb (ents 3 t ps) 17]), ge, dr, t + 51, os⟩ pos l.length := by
  unfold subDict
  dsimp only
  refine Sg.more (n := 1 + (256 + 0)) ?_ (by omega)
  refine Sg.bind' (n := 1) (b := l.length) (s₁ := ⟨hp (l ++ [dOb [] 0]), ge, dr, t, os⟩) (p₁ := pos) ?_ ?_
  · have := Sg.alloc (w := w) (s := ⟨hp l, ge, dr, t, os⟩) (p := pos) (o := dOb [] 0) (k := Sem.pure) (n := 0) (a := (hp l).objs.size) Sg.pure
    rw [show Shared.heap ⟨hp l, ge, dr, t, os⟩ = hp l from rfl, hp_push, hp_size] at this
    exact this
  refine Sg.bind' (n := 256) (m := 0) (b := ()) (s₁ := ⟨hp (l ++ [dOb (ents 3 t ps) 17]), ge, dr, t + 51, os⟩) (p₁ := pos) (Sg.holding _ ?_) Sg.pure
  rw [if_neg (by rw [List.length_map]; omega)]
  refine Sg.bind' (n := 1) (m := 255) (b := ()) (Sg.rule Sg.pure) ?_
  have := sg_long (w := w) (pos := pos) (ge := ge) (dr := dr) (os := os) l hl ps lo [] 0 t hi h0 (fun _ h => nomatch h) (by simp; omega)
  rw [h17, List.nil_append] at this
  exact Sg.bind' (n := 255) (m := 0) this Sg.pure
theorem sg_subS (l : List Obj) (hl : 11 ≤ l.length) (ps : List (Int × Str)) (lo : Int) (t : Nat) (h15 : ps.length ≤ 15) (hi : incr lo ps = true) (h0 : 0 ≤ lo + 1) :
    Sg w 260 ⟨hp l, ge, dr, t, os⟩ pos (subDict (ps.map (pTree pos))) ⟨hp (l ++ [dOb (ents 2 t ps) ps.length]), ge, dr, t + 3 * ps.length, os⟩ pos l.length := by
  unfold subDict
  dsimp only
  refine Sg.more (n := 1 + ((3 * ps.length + 12 * ps.length) + 0)) ?_ (by omega)
  refine Sg.bind' (n := 1) (b := l.length) (s₁ := ⟨hp (l ++ [dOb [] 0]), ge, dr, t, os⟩) (p₁ := pos) ?_ ?_
  · have := Sg.alloc (w := w) (s := ⟨hp l, ge, dr, t, os⟩) (p := pos) (o := dOb [] 0) (k := Sem.pure) (n := 0) (a := (hp l).objs.size) Sg.pure
    rw [show Shared.heap ⟨hp l, ge, dr, t, os⟩ = hp l from rfl, hp_push, hp_size] at this
    exact this
  refine Sg.bind' (n := 3 * ps.length + 12 * ps.length) (m := 0) (b := ()) (s₁ := ⟨hp (l ++ [dOb (ents 2 t ps) ps.length]), ge, dr, t + 3 * ps.length, os⟩) (p₁ := pos) (Sg.holding _ ?_) Sg.pure
  rw [if_pos (by rw [List.length_map]; omega)]
  refine Sg.bind' (n := 3 * ps.length) (m := 12 * ps.length) (sg_pairs ps t) (Sg.holding _ ?_)
  have := sg_store (w := w) (pos := pos) (ge := ge) (dr := dr) (os := os) l hl ps lo [] 0 t (t + 2 * ps.length) hi h0 (fun _ h => nomatch h) (by simp; omega)
  rw [List.nil_append, Nat.zero_add, show t + 2 * ps.length + ps.length = t + 3 * ps.length by omega] at this
  exact Sg.bind' (n := 12 * ps.length) (m := 0) this Sg.pure
end
/-! the display -/
noncomputable def dFlush (run : List (Sem Value × Sem Value)) (main : Option Addr) : Sem (Option Addr) :=
  if run.isEmpty = true then pure main
  else match main with
    | none => do
      let x ← subDict run
      pure (some x)
    | some d => do
      let sub ← holding [Value.ref d] (subDict run)
      (holding [Value.ref d, Value.ref sub] (mergeMapping d (Value.ref sub) false)).onRaise fun x => do
        let _ ← holding [Value.ref d, x] (runValue (Code.builtin "proto.let_go" {}))
        pure ()
      pure (some d)
noncomputable def dRest (s : Option Addr × List (Sem Value × Sem Value)) : Sem Value := do
  let m ← dFlush s.snd s.fst
  match m with
  | some d => pure (Value.ref d)
  | none => newDict
theorem disp_is : ∃ F : (Option (Sem Value) × Sem Value) → (Option Addr × List (Sem Value × Sem Value)) → Sem (ForInStep (Option Addr × List (Sem Value × Sem Value))),
    (∀ items, dictDisplay items = (forIn items ((none : Option Addr), ([] : List (Sem Value × Sem Value))) F >>= dRest)) ∧
    ∀ (k v : Sem Value) (main : Option Addr) (run : List (Sem Value × Sem Value)), F (some k, v) (main, run) = if ((run ++ [(k, v)]).length == 17) = true then (do let m ← dFlush (run ++ [(k, v)]) main; pure (.yield (m, []))) else pure (.yield (main, run ++ [(k, v)])) :=
  ⟨_, fun items => rfl, fun k v main run => rfl⟩
end Mine

end
section
open PySem PySem.W PyProof.Rows PySem.Calls
namespace Mine
noncomputable abbrev sTree (pos : Pos) (z : Int × Str) : Option (Sem Value) × Sem Value := (some (kTree z.1), vTree pos z.2)
noncomputable def lastD : Int → List (Int × Str) → Int
  | lo, [] => lo
  | _, (k, _) :: r => lastD k r
theorem incr_app : ∀ {lo : Int} {a b : List (Int × Str)}, incr lo (a ++ b) = true → incr lo a = true ∧ incr (lastD lo a) b = true
  | lo, [], b, h => ⟨rfl, h⟩
  | lo, (k, x) :: r, b, h => by
    rw [List.cons_append, incr] at h
    rw [incr, lastD]
    simp only [Bool.and_eq_true] at h ⊢
    obtain ⟨i, j⟩ := incr_app h.2
    exact ⟨⟨h.1, i⟩, j⟩
theorem lastD_ge : ∀ {lo : Int} {a : List (Int × Str)}, incr lo a = true → lo ≤ lastD lo a
  | lo, [], _ => Int.le_refl _
  | lo, (k, x) :: r, h => by
    unfold incr at h
    simp only [Bool.and_eq_true, decide_eq_true_eq] at h
    have := lastD_ge h.2
    rw [lastD]
    omega
theorem ents_le (c : Nat) : ∀ {lo : Int} {a : List (Int × Str)} {t : Nat}, incr lo a = true → ∀ e ∈ ents c t a, e.hash ≤ lastD lo a
  | lo, [], _, _, _, h => nomatch h
  | lo, (k, x) :: r, t, h, e, he => by
    unfold incr at h
    simp only [Bool.and_eq_true, decide_eq_true_eq] at h
    rw [lastD]
    rcases List.mem_cons.mp he with rfl | he
    · exact lastD_ge h.2
    · exact ents_le c h.2 e he
section
variable {w : World} {pos : Pos} {ge : Array GenState} {dr : Drawn} {os : OsState}
theorem gather {F : (Option (Sem Value) × Sem Value) → (Option Addr × List (Sem Value × Sem Value)) → Sem (ForInStep (Option Addr × List (Sem Value × Sem Value)))}
    (hF : ∀ (k v : Sem Value) (main : Option Addr) (run : List (Sem Value × Sem Value)), F (some k, v) (main, run) = if ((run ++ [(k, v)]).length == 17) = true then (do let m ← dFlush (run ++ [(k, v)]) main; pure (.yield (m, []))) else pure (.yield (main, run ++ [(k, v)])))
    (main : Option Addr) (rest : List (Option (Sem Value) × Sem Value)) : ∀ (ps : List (Int × Str)) (run : List (Sem Value × Sem Value)), run.length + ps.length < 17 →
      forIn (ps.map (sTree pos) ++ rest) (main, run) F = forIn rest (main, run ++ ps.map (pTree pos)) F
  | [], run, _ => by simp
  | z :: r, run, h => by
    rw [List.length_cons] at h
    rw [List.map_cons, List.cons_append, List.forIn_cons, hF, if_neg (by simp; omega)]
    show forIn (r.map (sTree pos) ++ rest) (main, run ++ [pTree pos z]) F = _
    rw [gather hF main rest r _ (by simp; omega), List.append_assoc]
    rfl
theorem sem_assoc {α β γ : Type} (x : Sem α) (f : α → Sem β) (g : β → Sem γ) : (x >>= f) >>= g = x >>= fun a => f a >>= g := by
  show Sem.bind (Sem.bind x f) g = Sem.bind x fun a => Sem.bind (f a) g
  rw [Sem.bind_eq_wrap, Sem.bind_eq_wrap, Sem.wrap_wrap, Sem.bind_eq_wrap]
  exact Sem.wrap_congr _ _ _ (fun a => (Sem.bind_eq_wrap _ _).symm) fun _ => rfl
theorem run17 {F : (Option (Sem Value) × Sem Value) → (Option Addr × List (Sem Value × Sem Value)) → Sem (ForInStep (Option Addr × List (Sem Value × Sem Value)))}
    (hF : ∀ (k v : Sem Value) (main : Option Addr) (run : List (Sem Value × Sem Value)), F (some k, v) (main, run) = if ((run ++ [(k, v)]).length == 17) = true then (do let m ← dFlush (run ++ [(k, v)]) main; pure (.yield (m, []))) else pure (.yield (main, run ++ [(k, v)])))
    {α : Type} {G : (Option Addr × List (Sem Value × Sem Value)) → Sem α} {main m' : Option Addr} {rest : List (Option (Sem Value) × Sem Value)} {ps : List (Int × Str)} (h17 : ps.length = 17) {n k : Nat} {s s₁ s' : Shared} {v : α}
    (h : Sg w n s pos (dFlush (ps.map (pTree pos)) main) s₁ pos m') (g : Sg w k s₁ pos (forIn rest (m', []) F >>= G) s' pos v) : Sg w (n + k) s pos (forIn (ps.map (sTree pos) ++ rest) (main, []) F >>= G) s' pos v := by
  have hne : ps ≠ [] := by intro e; rw [e] at h17; cases h17
  obtain ⟨a, z, rfl⟩ : ∃ a z, ps = a ++ [z] := ⟨_, _, (List.dropLast_concat_getLast hne).symm⟩
  rw [List.length_append, List.length_singleton] at h17
  rw [List.map_append, List.append_assoc, gather hF main _ a [] (by simp; omega), List.nil_append, List.map_singleton, List.singleton_append, List.forIn_cons, hF, if_pos (by simp; omega)]
  rw [List.map_append, List.map_singleton] at h
  rw [sem_assoc, sem_assoc]
  exact Sg.bind' (n := n) (m := k) h g
theorem flush17 (b subs : List Obj) (es : List DictEntry) (ps : List (Int × Str)) (n t : Nat) (lo : Int) (hb : 11 ≤ b.length) (hne : es ≠ []) (h17 : ps.length = 17) (hi : incr lo ps = true) (h0 : 0 ≤ lo + 1) (he : ∀ x ∈ es, x.hash ≤ lo) (hs : es.length + 17 < 999) :
    Sg w 370 ⟨hp (b ++ dOb es n :: subs), ge, dr, t, os⟩ pos (dFlush (ps.map (pTree pos)) (some b.length)) ⟨hp (b ++ dOb (es ++ ents 3 t ps) (n + 17) :: (subs ++ [dOb (ents 3 t ps) 17])), ge, dr, t + 51, os⟩ pos (some b.length) := by
  unfold dFlush
  rw [if_neg (by cases ps with | nil => cases h17 | cons z r => simp)]
  dsimp only
  refine Sg.more (n := 260 + (108 + 0)) ?_ (by omega)
  have h1 := sg_sub17 (w := w) (pos := pos) (ge := ge) (dr := dr) (os := os) (b ++ dOb es n :: subs) (by rw [List.length_append]; omega) ps lo t h17 hi h0
  rw [List.append_assoc, List.cons_append, List.length_append, List.length_cons, show b.length + (subs.length + 1) = b.length + 1 + subs.length by omega] at h1
  refine Sg.bind' (n := 260) (Sg.holding _ h1) ?_
  have h2 := sg_merge (w := w) (pos := pos) (ge := ge) (dr := dr) (os := os) b subs es (ents 3 t ps) n 17 (t + 51) lo hb hne (incrE_of 3 ps lo t hi) he (by rw [ents_len, h17]; exact hs)
  rw [ents_len, h17] at h2
  exact Sg.bind' (n := 108) (m := 0) (Sg.onRaise (Sg.holding _ h2)) Sg.pure
theorem flushS (b subs : List Obj) (es : List DictEntry) (ps : List (Int × Str)) (n t : Nat) (lo : Int) (hb : 11 ≤ b.length) (hne : es ≠ []) (hp0 : ps ≠ []) (h15 : ps.length ≤ 15) (hi : incr lo ps = true) (h0 : 0 ≤ lo + 1) (he : ∀ x ∈ es, x.hash ≤ lo) (hs : es.length + 17 < 999) :
    Sg w 370 ⟨hp (b ++ dOb es n :: subs), ge, dr, t, os⟩ pos (dFlush (ps.map (pTree pos)) (some b.length)) ⟨hp (b ++ dOb (es ++ ents 2 t ps) (n + ps.length) :: (subs ++ [dOb (ents 2 t ps) ps.length])), ge, dr, t + 3 * ps.length, os⟩ pos (some b.length) := by
  unfold dFlush
  rw [if_neg (by cases ps with | nil => exact absurd rfl hp0 | cons z r => simp)]
  dsimp only
  refine Sg.more (n := 260 + ((6 * ps.length + 6) + 0)) ?_ (by omega)
  have h1 := sg_subS (w := w) (pos := pos) (ge := ge) (dr := dr) (os := os) (b ++ dOb es n :: subs) (by rw [List.length_append]; omega) ps lo t h15 hi h0
  rw [List.append_assoc, List.cons_append, List.length_append, List.length_cons, show b.length + (subs.length + 1) = b.length + 1 + subs.length by omega] at h1
  refine Sg.bind' (n := 260) (Sg.holding _ h1) ?_
  have h2 := sg_merge (w := w) (pos := pos) (ge := ge) (dr := dr) (os := os) b subs es (ents 2 t ps) n ps.length (t + 3 * ps.length) lo hb hne (incrE_of 2 ps lo t hi) he (by rw [ents_len]; omega)
  rw [ents_len] at h2
  exact Sg.bind' (n := 6 * ps.length + 6) (m := 0) (Sg.onRaise (Sg.holding _ h2)) Sg.pure
noncomputable def allE : Nat → List (List (Int × Str)) → List (Int × Str) → List DictEntry
  | t, [], l => ents 2 t l
  | t, r :: rs, l => ents 3 t r ++ allE (t + 51) rs l
noncomputable def allS : Nat → List (List (Int × Str)) → List (Int × Str) → List Obj
  | t, [], l => [dOb (ents 2 t l) l.length]
  | t, r :: rs, l => dOb (ents 3 t r) 17 :: allS (t + 51) rs l
theorem disp_go {F : (Option (Sem Value) × Sem Value) → (Option Addr × List (Sem Value × Sem Value)) → Sem (ForInStep (Option Addr × List (Sem Value × Sem Value)))}
    (hF : ∀ (k v : Sem Value) (main : Option Addr) (run : List (Sem Value × Sem Value)), F (some k, v) (main, run) = if ((run ++ [(k, v)]).length == 17) = true then (do let m ← dFlush (run ++ [(k, v)]) main; pure (.yield (m, []))) else pure (.yield (main, run ++ [(k, v)])))
    (b : List Obj) (hb : 11 ≤ b.length) (last : List (Int × Str)) (hl0 : last ≠ []) (hl : last.length ≤ 15) : ∀ (rs : List (List (Int × Str))) (subs : List Obj) (es : List DictEntry) (n t : Nat) (lo : Int),
      (∀ r ∈ rs, r.length = 17) → es ≠ [] → incr lo (rs.flatten ++ last) = true → 0 ≤ lo + 1 → (∀ x ∈ es, x.hash ≤ lo) → es.length + 17 * rs.length + 17 < 999 →
      Sg w (370 * rs.length + 370) ⟨hp (b ++ dOb es n :: subs), ge, dr, t, os⟩ pos (forIn ((rs.flatten ++ last).map (sTree pos)) (some b.length, []) F >>= dRest)
        ⟨hp (b ++ dOb (es ++ allE t rs last) (n + (17 * rs.length + last.length)) :: (subs ++ allS t rs last)), ge, dr, t + (51 * rs.length + 3 * last.length), os⟩ pos (.ref b.length) := by
  intro rs
  induction rs with
  | nil =>
    intro subs es n t lo hr hne hi h0 he hs
    simp only [List.flatten_nil, List.nil_append] at hi ⊢
    have e := gather (pos := pos) hF (some b.length) [] last [] (by simp; omega)
    rw [List.append_nil] at e
    rw [e]
    simp only [List.length_nil, Nat.mul_zero, Nat.zero_add]
    refine Sg.more (n := 0 + (370 + 0)) ?_ (by omega)
    refine Sg.bind' (n := 0) (m := 370 + 0) Sg.pure ?_
    unfold dRest
    have f := flushS (w := w) (pos := pos) (ge := ge) (dr := dr) (os := os) b subs es last n t lo hb hne hl0 hl hi h0 he (by simp at hs; omega)
    exact Sg.bind' (n := 370) (m := 0) f Sg.pure
  | cons r rs ih =>
    intro subs es n t lo hr hne hi h0 he hs
    have h17 := hr r (.head _)
    rw [List.flatten_cons, List.append_assoc] at hi
    obtain ⟨i1, i2⟩ := incr_app hi
    have f := flush17 (w := w) (pos := pos) (ge := ge) (dr := dr) (os := os) b subs es r n t lo hb hne h17 i1 h0 he (by simp at hs; omega)
    have g := ih (subs ++ [dOb (ents 3 t r) 17]) (es ++ ents 3 t r) (n + 17) (t + 51) (lastD lo r) (fun q hq => hr q (.tail _ hq)) (by simp [hne]) i2 (by have := lastD_ge i1; omega) (by
      intro x hx
      rcases List.mem_append.mp hx with hx | hx
      · have := he x hx; have := lastD_ge i1; omega
      · exact ents_le 3 i1 x hx) (by simp [ents_len, h17] at hs ⊢; omega)
    rw [List.append_assoc, List.append_assoc, List.singleton_append, show n + 17 + (17 * rs.length + last.length) = n + (17 * (rs.length + 1) + last.length) by omega, show t + 51 + (51 * rs.length + 3 * last.length) = t + (51 * (rs.length + 1) + 3 * last.length) by omega] at g
    rw [List.flatten_cons, List.append_assoc, List.map_append, List.length_cons]
    rw [show 370 * (rs.length + 1) + 370 = 370 + (370 * rs.length + 370) by omega]
    exact run17 hF h17 f g
end
end Mine

end
section
open PySem PySem.W PyProof.Rows PySem.Calls
namespace Mine
noncomputable def b3Keys : Stmt → List (Option PySem.Expr)
  | .Assign _ (.Dict ks _ _) _ => ks
  | _ => []
noncomputable def b3Vals : Stmt → List PySem.Expr
  | .Assign _ (.Dict _ vs _) _ => vs
  | _ => []
noncomputable def b3Pos : Stmt → Pos
  | .Assign _ (.Dict _ _ p) _ => p
  | _ => ⟨0, 0, 0, 0⟩
noncomputable def runsFrom (i : Nat) : Nat → List (List (Int × Str))
  | 0 => []
  | n + 1 => chunk i :: runsFrom (i + 1) n
theorem ps_split : psOf (st 3) = chunk 0 ++ ((runsFrom 1 37).flatten ++ chunk 38) := by kernel_rfl
theorem ps_incr : incr 0 (psOf (st 3)) = true := by kernel_rfl
theorem ps_runs : (chunk 0 :: runsFrom 1 37).all (fun r => r.length == 17) = true := by kernel_rfl
theorem ps_last : (chunk 38).length = 4 := by kernel_rfl
theorem disp_items : (evalEachOpt (b3Keys (st 3)) benv).zip ((evalEach (b3Vals (st 3)) benv).map fun v => do let x ← v; standAt (b3Pos (st 3)); pure x) = (psOf (st 3)).map (sTree (b3Pos (st 3))) := by kernel_rfl
theorem ents_all : ents 3 256 (chunk 0) ++ allE 307 (runsFrom 1 37) (chunk 38) = b3Of (st 3) := by kernel_rfl
theorem b3_objs (P : Params) : BT.list (T_3a P) 72 = BT.list (T_2 P) 33 ++ dOb (b3Of (st 3)) 650 :: allS 307 (runsFrom 1 37) (chunk 38) := by kernel_rfl
section
variable {w : World} {os : OsState}
theorem b3_disp (b : List Obj) (hb : 11 ≤ b.length) (pos : Pos) : Sg w 14500 ⟨hp b, #[], {}, 256, os⟩ pos (dictDisplay ((psOf (st 3)).map (sTree pos)))
    ⟨hp (b ++ dOb (b3Of (st 3)) 650 :: allS 307 (runsFrom 1 37) (chunk 38)), #[], {}, 2206, os⟩ pos (.ref b.length) := by
  obtain ⟨F, h1, h2⟩ := disp_is
  rw [h1]
  have hi := ps_incr
  rw [ps_split] at hi
  obtain ⟨i1, i2⟩ := incr_app hi
  have hr := List.all_eq_true.mp ps_runs
  have h0 : (chunk 0).length = 17 := by simpa using hr _ (.head _)
  have lens : (runsFrom 1 37).length = 37 := rfl
  have g := disp_go (w := w) (pos := pos) (ge := #[]) (dr := {}) (os := os) h2 b hb (chunk 38) (by intro e; have := ps_last; rw [e] at this; cases this) (by rw [ps_last]; decide) (runsFrom 1 37) [] (ents 3 256 (chunk 0)) 17 307 (lastD 0 (chunk 0))
    (fun r hr' => by simpa using hr r (.tail _ hr')) (by intro e; have := ents_len 3 256 (chunk 0); rw [e, h0] at this; cases this) i2 (by have := lastD_ge i1; omega) (ents_le 3 i1) (by rw [ents_len, h0, lens]; decide)
  rw [lens, ps_last, ents_all, List.nil_append] at g
  rw [ps_split, List.map_append]
  refine Sg.more (n := 261 + (370 * 37 + 370)) ?_ (by decide)
  refine run17 h2 h0 (m' := some b.length) (s₁ := ⟨hp (b ++ [dOb (ents 3 256 (chunk 0)) 17]), #[], {}, 307, os⟩) ?_ g
  unfold dFlush
  rw [if_neg (by cases h : chunk 0 with | nil => rw [h] at h0; cases h0 | cons z r => simp)]
  exact Sg.more (Sg.bind' (n := 260) (m := 0) (sg_sub17 b hb (chunk 0) 0 256 h0 i1 (by decide)) Sg.pure) (by decide)
noncomputable def b3Tgts : Stmt → List PySem.Expr
  | .Assign ts _ _ => ts
  | _ => []
noncomputable def b3At : Stmt → Pos
  | .Assign _ _ p => p
  | _ => ⟨0, 0, 0, 0⟩
theorem st3_is : st 3 = .Assign (b3Tgts (st 3)) (.Dict (b3Keys (st 3)) (b3Vals (st 3)) (b3Pos (st 3))) (b3At (st 3)) := by kernel_rfl
theorem tgt_run : ∀ w : World, (fun (gd : Bool → Bool) (lv : List Value → List Value) (c : Code) (os : OsState) => segRunT treeTable Pw' w (nat_lit 11) (some (.ref 6)) 1 30 (S_3a w os)
    ⟨(do let x ← swappedStores (b3Tgts (st 3)) (.Dict (b3Keys (st 3)) (b3Vals (st 3)) (b3Pos (st 3))) benv; assignStores benv (.ref 33) x ((assignEach (b3Tgts (st 3)) benv).map (·.2)) : Sem Flow).wrap (fun a => .pure (.done a)) deadEnd gd lv, c, b3Pos (st 3), bstk⟩) = fun gd lv c os => some (.next, S_3 w os, c, ⟨5, 0, 5, 13⟩) := by intro w; kernel_rfl
theorem swap_run : ∀ w : World, (fun (gd : Bool → Bool) (lv : List Value → List Value) (c : Code) (os : OsState) => segRunT treeTable Pw' w (nat_lit 11) (some (.ref 6)) 1 30 (S_2 w os)
    ⟨(swapsWithSole (b3Tgts (st 3)) (.Dict (b3Keys (st 3)) (b3Vals (st 3)) (b3Pos (st 3))) (b3At (st 3)).line benv).wrap (fun a => .pure (.done (.ret (.bool a)))) deadEnd gd lv, c, b3At (st 3), bstk⟩) = fun gd lv c os => some (.ret (.bool false), S_2 w os, c, b3At (st 3)) := by intro w; kernel_rfl
theorem b3_sg : Sg w 15000 (S_2 w os).abs ⟨3, 0, 4, 30⟩ (exec (st 3) benv) (S_3 w os).abs ⟨5, 0, 5, 13⟩ .next := by
  rw [st3_is, arm_exec_Assign]
  refine Sg.more (n := 1 + (30 + (14501 + 30))) ?_ (by decide)
  refine Sg.bind' (n := 1) (b := ()) (s₁ := (S_2 w os).abs) (p₁ := b3At (st 3)) (Sg.at Sg.pure) ?_
  refine Sg.bind' (n := 30) (b := false) (s₁ := (S_2 w os).abs) (p₁ := b3At (st 3)) ?_ ?_
  · refine Sg.of_run (fun a => .ret (.bool a)) (.ret (.bool false)) (fun a' h => by injection h with h; injection h) (fun gd lv c => ?_)
    exact segRun_of (congrFun (congrFun (congrFun (congrFun (swap_run w) gd) lv) c) os)
  rw [if_neg (by decide)]
  refine Sg.bind' (n := 14501) (b := .ref 33) (s₁ := (S_3a w os).abs) (p₁ := b3Pos (st 3)) ?_ ?_
  · rw [arm_eval_Dict]
    refine Sg.more (n := 1 + 14500) ?_ (by decide)
    refine Sg.bind' (n := 1) (b := ()) (s₁ := (S_2 w os).abs) (p₁ := b3Pos (st 3)) (Sg.at Sg.pure) ?_
    rw [disp_items]
    have h := b3_disp (w := w) (os := os) (BT.list (T_2 w.params) 33) (by simp [BT.list]) (b3Pos (st 3))
    rw [show (BT.list (T_2 w.params) 33).length = 33 by simp [BT.list], ← b3_objs] at h
    exact h
  · refine Sg.of_run (fun a => a) .next (fun a' h => h) (fun gd lv c => ?_)
    exact segRun_of (congrFun (congrFun (congrFun (congrFun (tgt_run w) gd) lv) c) os)
theorem pc_3 {N : Nat} {r : Shared} {rest : List Stmt} (h : tRun w N (S_3 w os).abs (restOf rest benv bcode ⟨5, 0, 5, 13⟩ bstk) = some r) : tRun w (15000 + N) (S_2 w os).abs (restOf (st 3 :: rest) benv bcode ⟨3, 0, 4, 30⟩ bstk) = some r := by
  unfold restOf
  rw [execs_cons_wrap]
  exact b3_sg _ _ _ _ _ _ _ h
end
end Mine

end
section
open PySem PySem.W PyProof.Rows PySem.Calls
namespace Mine
theorem pc_0 : ∀ w : World, (fun os => segRunT treeTable Pw' w (nat_lit 11) (some (.ref 6)) 1 (nat_lit 10) (S_B w os) (piecesOf (stsOf 0 1) benv bcode ⟨0, 0, 0, 0⟩ bstk)) = fun os => some (.next, S_0 w os, bcode, ⟨1, 0, 1, 8⟩) := by intro w; kernel_rfl
theorem pq_1 : ∀ w : World, (fun os => PySem.W.Fast.tw10110043849684766642 PySem.W.Fast.tw14364793385576792824 Pw' w (nat_lit 11) (some (.ref 6)) 1 (nat_lit 999) (S_0 w os) ⟨(PySem.W.Fast.tw12563942051412417395 (stsOf 1 1) benv).wrap doneF deadEnd id id, bcode, ⟨1, 0, 1, 8⟩, bstk⟩) = fun os => some (.next, S_1 w os, bcode, ⟨2, 0, 2, 6⟩) :=
  byRow2 (P := fun w => (fun os => PySem.W.Fast.tw10110043849684766642 PySem.W.Fast.tw14364793385576792824 Pw' w (nat_lit 11) (some (.ref 6)) 1 (nat_lit 999) (S_0 w os) ⟨(PySem.W.Fast.tw12563942051412417395 (stsOf 1 1) benv).wrap doneF deadEnd id id, bcode, ⟨1, 0, 1, 8⟩, bstk⟩) = fun os => some (.next, S_1 w os, bcode, ⟨2, 0, 2, 6⟩)) "special-get-raises" (by intro w; kernel_rfl) (by intro w; kernel_rfl)
theorem pc_1 : ∀ w : World, (fun os => segRunT treeTable Pw' w (nat_lit 11) (some (.ref 6)) 1 (nat_lit 999) (S_0 w os) (piecesOf (stsOf 1 1) benv bcode ⟨1, 0, 1, 8⟩ bstk)) = fun os => some (.next, S_1 w os, bcode, ⟨2, 0, 2, 6⟩) := by
  intro w
  have h := pq_1 w
  rw [← PySem.W.Fast.te10110043849684766642, ← PySem.W.Fast.te14364793385576792824, ← PySem.W.Fast.te12563942051412417395] at h
  exact h
theorem pc_2 : ∀ w : World, (fun os => segRunT treeTable Pw' w (nat_lit 11) (some (.ref 6)) 1 (nat_lit 30) (S_1 w os) (piecesOf (stsOf 2 1) benv bcode ⟨2, 0, 2, 6⟩ bstk)) = fun os => some (.next, S_2 w os, bcode, ⟨3, 0, 4, 30⟩) := by intro w; kernel_rfl
theorem pc_9 : ∀ w : World, (fun os => segRunT treeTable Pw' w (nat_lit 11) (some (.ref 6)) 1 (nat_lit 140) (S_3 w os) (piecesOf (stsOf 4 6) benv bcode ⟨5, 0, 5, 13⟩ bstk)) = fun os => some (.next, S_9 w os, bcode, ⟨29, 0, 29, 8⟩) := by intro w; kernel_rfl
end Mine

end
section
open PySem PySem.W PyProof.Rows PySem.Calls
namespace Mine
theorem pq_10 : ∀ w : World, (fun os => PySem.W.Fast.tw10110043849684766642 PySem.W.Fast.tw14364793385576792824 Pw' w (nat_lit 11) (some (.ref 6)) 1 (nat_lit 324) (S_9 w os) ⟨(PySem.W.Fast.tw12563942051412417395 (stsOf 10 1) benv).wrap doneF deadEnd id id, bcode, ⟨29, 0, 29, 8⟩, bstk⟩) = fun os => some (.next, S_10 w os, bcode, ⟨30, 0, 72, 35⟩) := by intro w; kernel_rfl
theorem pc_10 : ∀ w : World, (fun os => segRunT treeTable Pw' w (nat_lit 11) (some (.ref 6)) 1 (nat_lit 324) (S_9 w os) (piecesOf (stsOf 10 1) benv bcode ⟨29, 0, 29, 8⟩ bstk)) = fun os => some (.next, S_10 w os, bcode, ⟨30, 0, 72, 35⟩) := by
  intro w
  have h := pq_10 w
  rw [← PySem.W.Fast.te10110043849684766642, ← PySem.W.Fast.te14364793385576792824, ← PySem.W.Fast.te12563942051412417395] at h
  exact h
end Mine

end
section
open PySem PySem.W PyProof.Rows PySem.Calls
namespace Mine
theorem pc_18 : ∀ w : World, (fun os => segRunT treeTable Pw' w (nat_lit 11) (some (.ref 6)) 1 (nat_lit 220) (S_10 w os) (piecesOf (stsOf 11 8) benv bcode ⟨30, 0, 72, 35⟩ bstk)) = fun os => some (.next, S_18 w os, bcode, ⟨88, 0, 90, 12⟩) := by intro w; kernel_rfl
theorem pc_25 : ∀ w : World, (fun os => segRunT treeTable Pw' w (nat_lit 11) (some (.ref 6)) 1 (nat_lit 220) (S_18 w os) (piecesOf (stsOf 19 7) benv bcode ⟨88, 0, 90, 12⟩ bstk)) = fun os => some (.next, S_25 w os, bcode, ⟨142, 0, 149, 39⟩) := by intro w; kernel_rfl
theorem pc_29 : ∀ w : World, (fun os => segRunT treeTable Pw' w (nat_lit 11) (some (.ref 6)) 1 (nat_lit 150) (S_25 w os) (piecesOf (stsOf 26 4) benv bcode ⟨142, 0, 149, 39⟩ bstk)) = fun os => some (.next, S_29 w os, bcode, ⟨201, 0, 213, 54⟩) := by intro w; kernel_rfl
end Mine

end
section
open PySem PySem.W PyProof.Rows PySem.Calls
namespace Mine
theorem tr_pc {w : World} {os : OsState} {n i k : Nat} {S S' : World → OsState → SharedT} {pos pos' : Pos} {N : Nat} {r : Shared} {rest : List Stmt}
    (h : ∀ w : World, (fun os => segRunT treeTable Pw' w (nat_lit 11) (some (.ref 6)) 1 n (S w os) (piecesOf (stsOf i k) benv bcode pos bstk)) = fun os => some (.next, S' w os, bcode, pos'))
    (g : tRun w N (S' w os).abs (restOf rest benv bcode pos' bstk) = some r) : tRun w (n + N) (S w os).abs (restOf (stsOf i k ++ rest) benv bcode pos bstk) = some r :=
  piece_app (segRun_of (congrFun (h w) os)) g
noncomputable def Hend (P : Params) : Heap := ⟨#[boot_o_0 P, boot_o_1 P, boot_o_2 P, o3 P, boot_o_4 P, boot_o_5 P, boot_o_6 P, boot_o_7 P, boot_o_8 P, boot_o_9 P, boot_o_10 P, o11 P, s12_29 P, o13 P, o14 P, o15 P, o16 P, o17 P, o18 P, o19 P, o20 P, o21 P, o22 P, o23 P, o24 P, o25 P, o26 P, o27 P, o28 P, o29 P, o30 P, o31 P, o32 P, o33 P, subD 1, subD 2, subD 3, subD 4, subD 5, subD 6, subD 7, subD 8, subD 9, subD 10, subD 11, subD 12, subD 13, subD 14, subD 15, subD 16, subD 17, subD 18, subD 19, subD 20, subD 21, subD 22, subD 23, subD 24, subD 25, subD 26, subD 27, subD 28, subD 29, subD 30, subD 31, subD 32, subD 33, subD 34, subD 35, subD 36, subD 37, subL, o72 P, o73 P, o74 P, o75 P, o76 P, o77 P, o78 P, o79 P, o80 P, o81 P, o82 P, o83 P, o84 P, o85 P, o86 P, o87 P, o88 P, o89 P, o90 P, o91 P, o92 P, o93 P, o94 P, o95 P, o96 P, o97 P, o98 P, o99 P, o100 P, o101 P, o102 P, o103 P, o104 P, o105 P, o106 P, o107 P, o108 P, o109 P, o110 P, o111 P, o112 P, o113 P, o114 P, o115 P, o116 P, o117 P, o118 P, o119 P, o120 P, o121 P, o122 P, o123 P, o124 P, o125 P, o126 P, o127 P, o128 P, o129 P, o130 P, o131 P, o132 P, o133 P, o134 P, o135 P, o136 P, o137 P, o138 P, o139 P, o140 P, o141 P, o142 P, o143 P, o144 P, o145 P, o146 P, o147 P, o148 P, o149 P, o150 P, o151 P, o152 P, o153 P, o154 P, o155 P, o156 P, o157 P, o158 P, o159 P, o160 P, o161 P, o162 P, o163 P, o164 P, o165 P, o166 P, o167 P, o168 P, o169 P, o170 P, o171 P, o172 P, o173 P, o174 P, o175 P, o176 P, o177 P, o178 P, o179 P, o180 P, o181 P, o182 P, o183 P, o184 P, o185 P, o186 P, o187 P, o188 P, o189 P, o190 P, o191 P, o192 P, o193 P, o194 P, o195 P, o196 P, o197 P, o198 P, o199 P, o200 P, o201 P, o202 P, o203 P, o204 P, o205 P, o206 P, o207 P, o208 P, o209 P, o210 P, o211 P, o212 P, o213 P, o214 P, o215 P, o216 P, o217 P, o218 P, o219 P, o220 P, o221 P, o222 P, o223 P, o224 P, o225 P, o226 P, o227 P, o228 P, o229 P, o230 P, o231 P, o232 P, o233 P, o234 P, o235 P, o236 P, o237 P, o238 P, o239 P, o240 P, o241 P, o242 P, o243 P, o244 P, o245 P, o246 P, o247 P, o248 P, o249 P, o250 P, o251 P, o252 P], {}⟩
theorem hend_is (P : Params) : absHeap (T_29 P) (nat_lit 253) {} = Hend P := by kernel_rfl
theorem body_is : behindTheImports Pw' = stsOf 0 1 ++ (stsOf 1 1 ++ (stsOf 2 1 ++ (st 3 :: (stsOf 4 6 ++ (stsOf 10 1 ++ (stsOf 11 8 ++ (stsOf 19 7 ++ (stsOf 26 4 ++ [])))))))) := by kernel_rfl
theorem pre_run : ∀ w : World, (fun os => topGo treeTable Pw' w (nat_lit 11) (some (.ref 6)) 12 ⟨boot_heap w.params, Array.mk [], boot_drawn, boot_toks, os⟩ (topStub Pw')) = fun os => some ((S_B w os).abs, ⟨denote treeTable bcode, bcode, ⟨0, 0, 0, 0⟩, bstk⟩) := by intro w; kernel_rfl
theorem block_run : ∀ w : World, (fun os => segRunT treeTable Pw' w (nat_lit 11) (some (.ref 6)) 1 1 (S_B w os) (blockOf (behindTheImports Pw') benv bcode ⟨0, 0, 0, 0⟩ bstk)) = fun os => some (.next, S_B w os, bcode, ⟨0, 0, 0, 0⟩) := by intro w; kernel_rfl
theorem fin_run : ∀ w : World, (fun os => topRun treeTable Pw' w (nat_lit 11) (some (.ref 6)) 2 ⟨Hend w.params, #[], {}, nat_lit 2471, os⟩ ⟨doneF .next, bcode, ⟨201, 0, 213, 54⟩, bstk⟩) = fun os => some ⟨Hend w.params, #[], {}, nat_lit 2471, os⟩ := by intro w; kernel_rfl
theorem top_run (w : World) (os : OsState) : topRun treeTable Pw' w (nat_lit 11) (some (.ref 6)) 20000 ⟨boot_heap w.params, Array.mk [], boot_drawn, boot_toks, os⟩ (topStub Pw') = some ⟨Hend w.params, #[], {}, nat_lit 2471, os⟩ := by
  have e0 := congrFun (fin_run w) os
  have e1 : tRun w 2 (S_29 w os).abs (restOf [] benv bcode ⟨201, 0, 213, 54⟩ bstk) = some ⟨Hend w.params, #[], {}, nat_lit 2471, os⟩ := by
    show topRun treeTable Pw' w (nat_lit 11) (some (.ref 6)) 2 ⟨absHeap (T_29 w.params) (nat_lit 253) {}, #[], {}, nat_lit 2471, os⟩ ⟨doneF .next, bcode, ⟨201, 0, 213, 54⟩, bstk⟩ = _
    rw [hend_is]
    exact e0
  have e2 := tr_pc pc_29 e1
  have e3 := tr_pc pc_25 e2
  have e4 := tr_pc pc_18 e3
  have e5 := tr_pc pc_10 e4
  have e6 := tr_pc pc_9 e5
  have e7 := pc_3 e6
  have e8 := tr_pc pc_2 e7
  have e9 := tr_pc pc_1 e8
  have e10 := tr_pc pc_0 e9
  rw [← body_is] at e10
  have e11 := piece_block (segRun_of (congrFun (block_run w) os)) e10
  have e12 := go_top (congrFun (pre_run w) os) e11
  refine (congrArg (fun n => topRun treeTable Pw' w (nat_lit 11) (some (.ref 6)) n ⟨boot_heap w.params, Array.mk [], boot_drawn, boot_toks, os⟩ (topStub Pw')) ?_).trans (topRun_mono (20000 - 17108) _ _ _ _ e12)
  decide
end Mine

end
section
open PySem PySem.W PyProof.Rows PySem.Calls
namespace Mine
noncomputable def lawSt : { x : Stmt // x = st 29 } := ⟨.FunctionDef _ ⟨_, _, _, _, _, _, _⟩ (_ :: _) _ _ _ ⟨_, _, _, _, _⟩ _ _ _, rfl⟩
noncomputable def qv : Program := { Pw' with main := { Pw'.main with body := [lawSt.1] } }
noncomputable def looseL : List Str := ["b1_set", "in_table_b1", "b3_exceptions", "map_table_b3", "in_table_c11", "in_table_c4", "Int2AP", "_netrclex", "gt", "neg", "delitem", "setitem", "iadd", "imul", "isub", "_law_lexer", "_law_drawn", "_law_row", "_law_told", "_law_size", "_law_asked", "_law_missed", "_law_rest", "_law_greatest"]
noncomputable abbrev Hk : Hook := kmHook K Kas (fun _ => by kernel_rfl) [nat_lit 192]
noncomputable abbrev lr : OpenLaw := PySem.Challenge.rw_wj0062_01
noncomputable abbrev Xt9 (s : Shared) : Bool := xlAt qv [] s && recOk (RowW.records lr.row.toRowW) s
noncomputable abbrev Sn (w : World) (os : OsState) : Shared := ⟨Hend w.params, #[], {}, nat_lit 2471, os⟩
theorem lk_1 : ∀ w : World, (fun os => (staticsOk (importedModules Pw'.main.body) (boot_heap w.params) (Hend w.params) && namesBound Pw' (Hend w.params) && gensDone (Sn w os) && laidKept (boot_heap w.params) (Hend w.params))) = fun _ => true := by intro w; kernel_rfl
theorem lk_y : ∀ w : World, (fun os => Hk.obs (Sn w os)) = fun _ => Hk.val w := by intro w; kernel_rfl
theorem lk_2 : ∀ w : World, (fun os => (Sn w os).heap.bltView) = fun _ => bltViewBooted := by intro w; kernel_rfl
theorem lk_3 : ∀ w : World, (fun os => seen ((recsOf qv).map (·.name)) (ownsOf qv) [] { Sn w os with gens := #[] }) = fun _ => expectedOf qv := by intro w; kernel_rfl
theorem lk_4 : ∀ w : World, (fun os => ((Sn w os).heap.keysOk (looseW qv looseL) ((recsOf qv).map (·.name)) ((litsOf qv).map (·.1)) ((clssOf qv (looseW qv looseL)).map (·.name)) && (Sn w os).heap.accountedOkI (importedModules Pw'.main.body) && (Sn w os).heap.isNs mainGlobals && (Sn w os).heap.isNs builtinsNs && tablesOk qv (Sn w os).heap && Xt9 (Sn w os) && (if true then (Sn w os).gens.size == 0 else !leftWithCleanup (Sn w os).gens))) = fun _ => true := by intro w; kernel_rfl
theorem lk_5 : ∀ w : World, (fun os => tabsOk qv (Sn w os)) = fun _ => true := by intro w; kernel_rfl
theorem lk_6 : ∀ w : World, (fun os => pinSeenD qv (drecsOf qv) (Sn w os)) = fun _ => pinGoodD (drecsOf qv) := by intro w; kernel_rfl
theorem lk_7 : ∀ w : World, (fun os => plainSeenE qv (looseW qv looseL) (Sn w os)) = fun _ => plainGoodE qv (looseW qv looseL) := by intro w; kernel_rfl
theorem lk_8 : ∀ w : World, (fun os => plainSeenD qv looseL (Sn w os)) = fun _ => plainGoodD qv looseL := by intro w; kernel_rfl
theorem lk_9 : ∀ w : World, (fun os => wideSeen qv (Sn w os)) = fun _ => wideGood qv := by intro w; kernel_rfl
theorem lk_10 : ∀ w : World, (fun os => clsSeenW qv looseL (Sn w os)) = fun _ => clsGoodW qv looseL := by intro w; kernel_rfl
theorem left : LeftO Pw' qv looseL Xt9 Hk.obs Hk.val 40000 true := LeftO.of_pieces (H₀ := boot_heap) (H₁ := Hend) (gs₀ := Array.mk []) (gs₁ := #[]) (d₀ := boot_drawn) (d₁ := {}) (k₀ := boot_toks) (k₁ := nat_lit 2471) (m₀ := nat_lit 11) (ann := some (.ref 6)) (M := 20000)
  (boot_open (by kernel_rfl) (by decide) (fun s => rfl)) (by intro w; kernel_rfl) top_run (by decide) (fun w => funext fun os => by
    refine Prod.ext (congrFun (lk_1 w) os) (Prod.ext ?_ (congrFun (lk_y w) os))
    refine Prod.ext (congrFun (lk_3 w) os) (Prod.ext (congrFun (lk_2 w) os) (Prod.ext (congrFun (lk_4 w) os) (Prod.ext (congrFun (lk_5 w) os) (Prod.ext (congrFun (lk_6 w) os) (Prod.ext (congrFun (lk_7 w) os) (Prod.ext (congrFun (lk_8 w) os) (Prod.ext (congrFun (lk_9 w) os) (congrFun (lk_10 w) os)))))))))
end Mine

end
section
open PySem PySem.W PyProof.Rows PySem.Calls
namespace Mine
theorem law_good {cl : Str → Option Addr} {mean : ExcName → Option Value} {args : List WData} {s₁ s' : Shared} {L : Addr} {m : Str → Option Value} (F : Fr s₁.heap L s'.heap m) (hg : s'.gens = #[]) (hos : s'.os = s₁.os) : GoodW PySem.Challenge.rw_wj0062_01.row.claim cl mean args s₁ (.ok (.ret (.bool true))) s' :=
  goodW_bool F hg (raisesW_false (r := lr.row.toRowW) fun ct h => nomatch h) (postW_of (r := lr.row.toRowW) (X := (true == true)) rfl (w_eq_bool (w_res rfl) w_lit) rfl) hos
theorem tr_cell {o : Obj} {d : Data} (h : o.data = d) (e : d = .cell none) : o.data = .cell none := h.trans e
end Mine

end
section
open PySem PySem.W PyProof.Rows PySem.Calls PySem.Spec
namespace Mine
theorem slot_ci_iter : Slot "callable_iterator" "__iter__" "callable_iterator.__iter__" := .of (owner := "callable_iterator") (n := "__iter__") (by rw [typeLookup_type, builtinLookup_eq_fast]; kernel_rfl) (by decide +kernel) (by decide +kernel) (by decide +kernel)
    (by first | exact .inl (by decide +kernel) | exact .inr (by decide +kernel)) (by rw [isSubtype_type]; kernel_rfl)
theorem entry_ci_iter : entryFor table "callable_iterator.__iter__" = some Builtin.«dict_keyiterator.__iter__» := entryFor_alias (id' := "dict_keyiterator.__iter__") (by kernel_rfl) rfl (by decide +kernel) (by kernel_rfl)
theorem args_ci_iter (a : Value) : argsOk "callable_iterator.__iter__" ⟨[a], []⟩ := by unfold argsOk; kernel_rfl
section
variable {prog : Program} {w : World} {A : Around} {E : Value → Shared → Prop} {s : Shared} {env : Env} {it : Nat}
theorem pyIter_ci {Q : Value → Shared → Prop} (hT : s.TypeIs (.ref it) "callable_iterator") (h : Q (.ref it) s) : wpAny (model prog w) A (pyIter (.ref it)) Q E s := by
  refine wpAny_pyIter_slot hT slot_ci_iter (wpAny_call_entry slot_ci_iter hT entry_ci_iter ?_ (args_ci_iter _))
  show wpAny _ _ (ret (.ref it)) _ _ s
  exact wpAny_pure ⟨_, rfl, "callable_iterator", _, hT, slot_ci_next.lookup, h⟩
/-- a turn ends where the next may begin -/
noncomputable def Later (Inv : Nat → Shared → Prop) (k : Nat) (s : Shared) : Prop := ∃ j, j < k ∧ Inv j s
theorem for_inv {v : Str} {px pos : Pos} {iter : PySem.Expr} {body : List Stmt} {Q : Flow → Shared → Prop} (Inv : Nat → Shared → Prop) (n : Nat)
    (h : wpAny (model prog w) A (eval iter env) (fun xv s₁ => xv = .ref it ∧ s₁.TypeIs (.ref it) "callable_iterator" ∧ Inv n s₁) E s)
    (step : ∀ k s', Inv k s' → wpAny (model prog w) A (pyNext (.ref it)) (fun r s₁ => match r with
      | none => Q .next s₁
      | some y => wpAny (model prog w) A (storeName env v y) (fun _ s₂ => wpAny (model prog w) A (execs body env) (fun f s₃ => match f with
          | .next => Later Inv k s₃
          | .cont => Later Inv k s₃
          | .brk => Q .next s₃
          | .ret x => Q (.ret x) s₃) E s₂) E s₁) E s')
    (hs : ∀ x, foldedSetIterable iter env x = pure x := by intro _; rfl) (hE : PassesOwn (model prog w) A env E := by passes_own) :
    wpAny (model prog w) A (exec (.For (.Name v px) iter body [] pos) env) Q E s := by
  refine wpAny_For (wpAny_mono h (fun xv s₁ h₁ => ?_) fun _ _ z => z) hs
  obtain ⟨rfl, hT, h₁⟩ := h₁
  refine pyIter_ci hT ?_
  refine codeAny_forLoop (R := fun r s' => match r with | .ok f => Q f s' | .error e => cameBackBy (model prog w) A env E e s') Inv ?_ n h₁
  intro k s' hk
  refine wpAny_passesOwn hE (wpAny_mono (step k s' hk) (fun r s₁ hr => ?_) fun _ _ z => z)
  cases r with
  | none => exact wpAny_execs_nil hr
  | some y =>
    refine wpAny_passesOwn hE (wpAny_assign_Name (wpAny_mono hr (fun _ s₂ h₂ => ?_) fun _ _ z => z))
    refine wpAny_passesOwn hE (wpAny_mono h₂ (fun f s₃ h₃ => ?_) fun _ _ z => z)
    cases f <;> exact h₃
end
end Mine

end
section
open PySem PySem.W PyProof.Rows PySem.Calls PySem.Spec
namespace Mine
section
variable {prog : Program} {w : World} {A : Around} {E : Value → Shared → Prop} {s : Shared} {env : Env}
/-- the walk pauses here -/
noncomputable def Cut (p : Prop) : Prop := p
noncomputable def CutQ (M : Model) (A : Around) (l : List Stmt) (env : Env) (Q : Flow → Shared → Prop) (E : Value → Shared → Prop) (f : Flow) (s' : Shared) : Prop :=
  match f with
  | .next => Cut (wpAny M A (execs l env) Q E s')
  | .brk => Q .brk s'
  | .cont => Q .cont s'
  | .ret x => Q (.ret x) s'
theorem wp_cut {M : Model} {Q : Flow → Shared → Prop} {Γ : PySem.Ctx} (hΓ : Γ.In A) (n : Nat) : ∀ {l : List Stmt} {s : Shared} {p : Pos},
    Sem.wp M Γ (execs (l.take n) env) (fun f _ s' => CutQ M A (l.drop n) env Q E f s') (fun e _ s' => E e s') p s → Sem.wp M Γ (execs l env) (fun f _ s' => Q f s') (fun e _ s' => E e s') p s := by
  induction n with
  | zero => exact fun {l s p} h => (show Cut (wpAny M A (execs l env) Q E s) from h) Γ p hΓ
  | succ n ih =>
    intro l s p h
    cases l with
    | nil => exact (show Cut (wpAny M A (execs [] env) Q E s) from h) Γ p hΓ
    | cons a r =>
      rw [List.take_succ_cons, List.drop_succ_cons, execs_cons, Sem.wp_bind'] at h
      rw [execs_cons, Sem.wp_bind']
      refine Sem.wp_mono M Γ _ (fun f p' s' h' => ?_) (fun _ _ _ h' => h') _ _ h
      cases f with
      | next => exact ih h'
      | brk => exact h'
      | cont => exact h'
      | ret x => exact h'
theorem execs_cut {M : Model} (n : Nat) {l : List Stmt} {s : Shared} {Q : Flow → Shared → Prop}
    (h : wpAny M A (execs (l.take n) env) (fun f s' => match f with | .next => Cut (wpAny M A (execs (l.drop n) env) Q E s') | .brk => Q .brk s' | .cont => Q .cont s' | .ret x => Q (.ret x) s') E s) :
    wpAny M A (execs l env) Q E s := by
  intro Γ p hΓ
  refine wp_cut (A := A) hΓ n ?_
  refine Sem.wp_mono M Γ _ (fun f p' s' h' => ?_) (fun _ _ _ h' => h') _ _ (h Γ p hΓ)
  cases f <;> exact h'
/-- what comes behind is held by a name -/
theorem opq {α : Type} {M : Model} {t : Sem α} {Q : α → Shared → Prop} {E : Value → Shared → Prop} {s : Shared} (hE : PassesOwn M A env E)
    (h : ∀ (Q' : α → Shared → Prop) (E' : Value → Shared → Prop), (∀ f s', Q f s' → Q' f s') → PassesOwn M A env E' → wpAny M A t Q' E' s) : wpAny M A t Q E s := h Q E (fun _ _ h => h) hE
theorem while_inv {test : PySem.Expr} {body : List Stmt} {pos : Pos} {Q : Flow → Shared → Prop} (Inv : Nat → Shared → Prop) (n : Nat) (h : Inv n s)
    (turn : ∀ k s', Inv k s' → wpAny (model prog w) A (isTrue test env (eval test env)) (fun b s₂ =>
        if b = true then wpAny (model prog w) A (execs body env) (fun f s₃ => match f with
          | .next => Later Inv k s₃
          | .cont => Later Inv k s₃
          | .brk => Q .next s₃
          | .ret x => Q (.ret x) s₃) E s₂ else Q .next s₂) E s')
    (hE : PassesOwn (model prog w) A env E := by passes_own) :
    wpAny (model prog w) A (exec (.While test body [] pos) env) Q E s := by
  refine wpAny_While (codeAny_whileLoop Inv ?_ n h)
  intro k s' hk
  refine wpAny_mono (turn k s' hk) (fun b s₂ h₂ => ?_) hE
  cases b with
  | false =>
    simp only [Bool.false_eq_true, if_false] at h₂ ⊢
    exact wpAny_execs_nil h₂
  | true =>
    simp only [if_true] at h₂ ⊢
    refine wpAny_mono h₂ (fun f s₃ h₃ => ?_) hE
    cases f <;> exact h₃
end
/-- the word of Int2AP -/
noncomputable def hexW : Nat → Nat → List UInt8
  | 0, _ => []
  | k + 1, n => match n with
    | 0 => []
    | m + 1 => hexW k ((m + 1) / 16) ++ [UInt8.ofNat (65 + (m + 1) % 16)]
noncomputable def wordOf (n : Nat) : List UInt8 := hexW n n
end Mine

end
section
open PySem PySem.W PyProof.Rows PySem.Calls PySem.Spec
namespace Mine
section
variable {prog : Program} {w : World} {A : Around} {E : Value → Shared → Prop} {s s₀ : Shared} {env : Env} {h₀ : Heap} {x : Str} {body : List Stmt}
/-- a turn of a loop ends where the next may begin -/
noncomputable def Again (h₀ : Heap) (L : Addr) (J : (Str → Option Value) → Led → Prop) (it : Addr × Obj) (s₀ s₃ : Shared) : Prop :=
  ∃ h tk m led, s₃ = { s₀ with heap := h, toks := tk } ∧ Fr h₀ L h m ∧ News h₀ L h (it :: led) ∧ (∀ q ∈ led, q.1 ≠ it.1) ∧ J m led
/-- a loop's start: its iterator stands -/
noncomputable def Ready (prog : Program) (w : World) (A : Around) (h₀ : Heap) (L : Addr) (J : Nat → (Str → Option Value) → Led → Prop) (n : Nat) (P : Nat → Value → Prop) (s₀ : Shared) (it : Value) (s₂ : Shared) : Prop :=
  ∃ (I : Addr) (fp : List Addr) (St : Nat → Heap → Prop) (Ex : Heap → Prop) (o₀ : Obj) (h : Heap) (tk : Nat) (m : Str → Option Value) (led : Led), it = .ref I ∧ s₂ = { s₀ with heap := h, toks := tk } ∧ Walks prog w A I fp [I] n P St ∧ St 0 h ∧ Fr h₀ L h m ∧ News h₀ L h ((I, o₀) :: led) ∧ (∀ q ∈ led, q.1 ≠ I) ∧ J 0 m led ∧
    (∀ k h, St k h → ∃ o, h.get? I = some o ∧ ∀ h', h'.get? I = some o → Ex h' → St k h') ∧
    (∀ k m led h, J k m led → Fr h₀ L h m → News h₀ L h led → Ex h)
theorem for_led {px pos : Pos} {iter : PySem.Expr} {Q : Flow → Shared → Prop} (J : Nat → (Str → Option Value) → Led → Prop) (n : Nat) (P : Nat → Value → Prop)
    (h : wpAny (model prog w) A (eval iter env) (fun xv s₁ => wpAny (model prog w) A (pyIter xv) (fun it s₂ => Ready prog w A h₀ env.locals J n P s₀ it s₂) E s₁) E s)
    (turn : ∀ k v m led h tk I o, k < n → P k v → J k m led → Fr h₀ env.locals h (fun y => if y = x then some v else m y) → News h₀ env.locals h ((I, o) :: led) → (∀ q ∈ led, q.1 ≠ I) →
      wpAny (model prog w) A (execs body env) (fun f s₃ => match f with
        | .next => Again h₀ env.locals (J (k + 1)) (I, o) s₀ s₃
        | .cont => Again h₀ env.locals (J (k + 1)) (I, o) s₀ s₃
        | .brk => Q .next s₃
        | .ret y => Q (.ret y) s₃) E { s₀ with heap := h, toks := tk })
    (done : ∀ m led h tk, J n m led → Fr h₀ env.locals h m → News h₀ env.locals h led → Q .next { s₀ with heap := h, toks := tk })
    (hx : env.kindOf x = some .local := by rfl) (hp : (env.scope.kind == .class || (env.scope.kind == .module && env.locals != env.globals)) = false := by rfl)
    (hs : ∀ x, foldedSetIterable iter env x = pure x := by intro _; rfl) (hE : PassesOwn (model prog w) A env E := by passes_own) :
    wpAny (model prog w) A (exec (.For (.Name x px) iter body [] pos) env) Q E s := by
  refine wpAny_For (wpAny_mono h (fun xv s₁ h₁ => wpAny_mono h₁ (fun it s₂ h₂ => ?_) fun _ _ e => e) fun _ _ e => e) hs
  obtain ⟨I, fp, St, Ex, o₀, hh, tk₀, m₀, led₀, rfl, rfl, W, hst, F, N, hI, hJ, ob, ex⟩ := h₂
  have hIL : I ≠ env.locals := (N (I, o₀) (.head _)).2.1
  have hI0 : h₀.get? I = none := (N (I, o₀) (.head _)).2.2
  refine codeAny_forLoop (R := fun r s' => match r with | .ok f => Q f s' | .error e => cameBackBy (model prog w) A env E e s')
    (fun j s' => ∃ k h tk m led o, s' = { s₀ with heap := h, toks := tk } ∧ St k h ∧ Fr h₀ env.locals h m ∧ News h₀ env.locals h ((I, o) :: led) ∧ (∀ q ∈ led, q.1 ≠ I) ∧ J k m led ∧ k ≤ n ∧ j = n + 1 - k) ?_ (n + 1)
    ⟨0, _, _, _, _, _, rfl, hst, F, N, hI, hJ, Nat.zero_le _, rfl⟩
  rintro j s' ⟨k, h', tk, m, led, o, rfl, hst', F', N', hI', hJ', hk, rfl⟩
  have N1 : News h₀ env.locals h' led := fun q hq => N' q (.tail _ hq)
  have next : ∀ h₁ : Heap, (∀ b o, b ∉ [I] → h'.get? b = some o → h₁.get? b = some o) → Fr h₀ env.locals h₁ m ∧ News h₀ env.locals h₁ led := fun h₁ hk₁ =>
    ⟨⟨F'.ns.at' fun o e => hk₁ _ o (by simpa using fun e => hIL e.symm) e, fun b o e => hk₁ b o (by simp; rintro rfl; rw [hI0] at e; cases e) (F'.keep b o e), F'.above⟩,
      fun p hp => ⟨hk₁ _ _ (by simpa using hI' p hp) (N1 p hp).1, (N1 p hp).2⟩⟩
  by_cases hlt : k < n
  · refine W.item k _ _ _ hlt hst' fun v h₁ tk₁ hP hst₁ hk₁ => ?_
    obtain ⟨F₁, N₁⟩ := next h₁ hk₁
    refine wpAny_passesOwn hE (wpAny_assign_Name (wpAny_storeName_local hx F₁.ns (fun h₂ hn₂ hs₂ => ?_) hp))
    have F₂ := F₁.set hn₂ hs₂
    obtain ⟨o₁, ho₁, hob⟩ := ob _ _ hst₁
    have ho₂ : h₂.get? I = some o₁ := (hs₂.2 I hIL).trans ho₁
    have N₂ : News h₀ env.locals h₂ ((I, o₁) :: led) := by
      intro q hq
      rcases List.mem_cons.mp hq with rfl | hq
      · exact ⟨ho₂, hIL, hI0⟩
      · exact (N₁.set hs₂) q hq
    refine wpAny_passesOwn hE (wpAny_mono (turn k v m led h₂ _ I o₁ hlt hP hJ' F₂ N₂ hI') (fun f s₃ h₃ => ?_) fun _ _ e => e)
    have fin : Again h₀ env.locals (J (k + 1)) (I, o₁) s₀ s₃ → ∃ j, j < n + 1 - k ∧ ∃ k h tk m led o, s₃ = { s₀ with heap := h, toks := tk } ∧ St k h ∧ Fr h₀ env.locals h m ∧ News h₀ env.locals h ((I, o) :: led) ∧ (∀ q ∈ led, q.1 ≠ I) ∧ J k m led ∧ k ≤ n ∧ j = n + 1 - k := by
      rintro ⟨h₉, tk₃, m₃, led₃, rfl, F₃, N₃, hI₃, hJ₃⟩
      exact ⟨n + 1 - (k + 1), Nat.sub_lt_sub_left (Nat.lt_succ_of_lt (by assumption)) (Nat.lt_succ_self k), k + 1, h₉, tk₃, m₃, led₃, o₁, rfl, hob _ (N₃ (I, o₁) (.head _)).1 (ex _ _ _ _ hJ₃ F₃ fun q hq => N₃ q (.tail _ hq)), F₃, N₃, hI₃, hJ₃, hlt, rfl⟩
    cases f with
    | ret v => exact h₃
    | brk => exact h₃
    | cont => exact fin h₃
    | next => exact fin h₃
  · have hin : k = n := by omega
    subst hin
    refine W.done _ _ _ hst' fun h₁ tk₁ hk₁ => wpAny_execs_nil ?_
    obtain ⟨F₁, N₁⟩ := next h₁ hk₁
    exact done m led h₁ tk₁ hJ' F₁ N₁
theorem ready_range {r : Addr} {a₀ b₀ : Int} {t₀ u₀ v₀ : Tok} {n : Nat} {m : Str → Option Value} {led : Led} (J : Nat → (Str → Option Value) → Led → Prop) {s₁ : Shared} {L : Addr}
    (hh : A.handled = none) (hr : IsRange s₁.heap r a₀ b₀ 1 t₀ u₀ v₀) (hsmall : Builtin.Range.small a₀ b₀ 1 = true) (hn : Builtin.Range.rangeSize a₀ b₀ 1 = (n : Int)) (F : Fr h₀ L s₁.heap m) (N : News h₀ L s₁.heap led) (hJ : J 0 m led)
    (hs : s₁.gens = s₀.gens ∧ s₁.drawn = s₀.drawn ∧ s₁.os = s₀.os) :
    wpAny (model prog w) A (pyIter (.ref r)) (fun it s₂ => Ready prog w A h₀ L J n (fun i v => ∃ t, v = .int (a₀ + i) t) s₀ it s₂) E s₁ := by
  refine wpAny_pyIter_range hr hsmall ?_
  have W := Walks.range (prog := prog) (w := w) hh s₁.heap.objs.size a₀ 1 n
  simp only [Int.mul_one] at W
  refine ⟨s₁.heap.objs.size, _, _, fun _ => True, _, _, s₁.toks, m, led, rfl, ?_, W, ?_, F.push _, N.push F { cls := .type "range_iterator", data := .fields #[rawInt a₀, rawInt (Builtin.Range.rangeSize a₀ b₀ 1), rawInt 1] }, fun q hq => Nat.ne_of_lt (Heap.lt_size (N q hq).1), hJ, ?_, fun _ _ _ _ _ _ _ => trivial⟩
  · rw [hs.1, hs.2.1, hs.2.2]
  · show IsRangeIter _ _ _ _ _
    rw [hn]
    simpa using Heap.get?_push_size _ rfl
  · intro k h hk
    exact ⟨_, hk, fun h' e _ => e⟩
theorem ready_list {l : Addr} {items : Array Value} {m : Str → Option Value} {led : Led} (J : Nat → (Str → Option Value) → Led → Prop) {s₁ : Shared} {L : Addr}
    (hh : A.handled = none) (hl : s₁.heap.IsList l items) (F : Fr h₀ L s₁.heap m) (N : News h₀ L s₁.heap led) (hJ : J 0 m led)
    (hs : s₁.gens = s₀.gens ∧ s₁.drawn = s₀.drawn ∧ s₁.os = s₀.os) (hin : ∀ k m led h, J k m led → Fr h₀ L h m → News h₀ L h led → h.IsList l items) :
    wpAny (model prog w) A (pyIter (.ref l)) (fun it s₂ => Ready prog w A h₀ L J items.size (fun i v => items[i]? = some v) s₀ it s₂) E s₁ := by
  have hne : l ≠ s₁.heap.objs.size := by
    obtain ⟨o, ho, _⟩ := hl
    exact Nat.ne_of_lt (Heap.lt_size ho)
  refine wpAny_pyIter_list hl ?_
  have W := Walks.list (prog := prog) (w := w) hh s₁.heap.objs.size l hne items
  refine ⟨s₁.heap.objs.size, _, _, fun h => h.IsList l items, _, _, s₁.toks, m, led, rfl, ?_, W, ⟨⟨_, Heap.get?_push_size _ rfl, rfl, rfl⟩, hl.at fun o e => Heap.get?_push_of_some _ e⟩, F.push _, N.push F { cls := .type "list_iterator", data := .fields #[.ref l, .int 0 0] }, fun q hq => Nat.ne_of_lt (Heap.lt_size (N q hq).1), hJ, ?_, hin⟩
  · rw [hs.1, hs.2.1, hs.2.2]
  · rintro k h ⟨⟨o, ho, h1, h2⟩, _⟩
    exact ⟨o, ho, fun h' e hl' => ⟨⟨o, e, h1, h2⟩, hl'⟩⟩
end
end Mine

end
section
open PySem PySem.W PyProof.Rows PySem.Calls PySem.Spec
namespace Mine
section
variable {prog : Program} {w : World} {A : Around} {E : Value → Shared → Prop} {s s₀ : Shared} {env : Env} {h₀ : Heap}
theorem ready_str {tx : Str} {t : Tok} {m : Str → Option Value} {led : Led} (J : Nat → (Str → Option Value) → Led → Prop) {s₁ : Shared} {L : Addr}
    (hh : A.handled = none) (F : Fr h₀ L s₁.heap m) (N : News h₀ L s₁.heap led) (hJ : J 0 m led) (hs : s₁.gens = s₀.gens ∧ s₁.drawn = s₀.drawn ∧ s₁.os = s₀.os) :
    wpAny (model prog w) A (pyIter (.str tx t)) (fun it s₂ => Ready prog w A h₀ L J tx.cps.size (SignAt tx) s₀ it s₂) E s₁ := by
  have go : ∀ (T : String) (o : Obj) (hf : o.isFreed = false), Walks prog w A s₁.heap.objs.size [s₁.heap.objs.size] [s₁.heap.objs.size] tx.cps.size (SignAt tx) (fun i h => h.IsStrIter s₁.heap.objs.size T tx t i) →
      (s₁.heap.push o).IsStrIter s₁.heap.objs.size T tx t 0 → Ready prog w A h₀ L J tx.cps.size (SignAt tx) s₀ (.ref s₁.heap.objs.size) { s₁ with heap := s₁.heap.push o } := by
    intro T o hf W hst
    refine ⟨s₁.heap.objs.size, _, _, fun _ => True, o, _, s₁.toks, m, led, rfl, ?_, W, hst, F.push _, N.push F o hf, fun q hq => Nat.ne_of_lt (Heap.lt_size (N q hq).1), hJ, ?_, fun _ _ _ _ _ _ _ => trivial⟩
    · rw [hs.1, hs.2.1, hs.2.2]
    · rintro k h ⟨o, ho, h1, h2⟩
      exact ⟨o, ho, fun h' e _ => ⟨o, e, h1, h2⟩⟩
  cases ha : tx.cps.all (· < 128)
  · exact wpAny_pyIter_wide ha (go "str_iterator" _ rfl (Walks.strWide hh _ tx t) ⟨_, Heap.get?_push_size _ rfl, rfl, rfl⟩)
  · exact wpAny_pyIter_ascii ha (go "str_ascii_iterator" _ rfl (Walks.strAscii hh _ tx t) ⟨_, Heap.get?_push_size _ rfl, rfl, rfl⟩)
theorem ready_bytes {b : Array UInt8} {t : Tok} {m : Str → Option Value} {led : Led} (J : Nat → (Str → Option Value) → Led → Prop) {s₁ : Shared} {L : Addr}
    (hh : A.handled = none) (F : Fr h₀ L s₁.heap m) (N : News h₀ L s₁.heap led) (hJ : J 0 m led) (hs : s₁.gens = s₀.gens ∧ s₁.drawn = s₀.drawn ∧ s₁.os = s₀.os) :
    wpAny (model prog w) A (pyIter (.bytes b t)) (fun it s₂ => Ready prog w A h₀ L J b.size (fun i v => ∃ c u, b[i]? = some c ∧ v = .int (c.toNat : Int) u) s₀ it s₂) E s₁ := by
  refine KBw.pyIter_bytes ?_
  have W := KBw.walks (prog := prog) (w := w) hh s₁.heap.objs.size b t
  refine ⟨s₁.heap.objs.size, _, _, fun _ => True, { cls := .type "bytes_iterator", data := .fields #[.bytes b t, .int 0 0] }, _, s₁.toks, m, led, rfl, ?_, W, ⟨_, Heap.get?_push_size _ rfl, rfl, rfl⟩, F.push _, N.push F _, fun q hq => Nat.ne_of_lt (Heap.lt_size (N q hq).1), hJ, ?_, fun _ _ _ _ _ _ _ => trivial⟩
  · rw [hs.1, hs.2.1, hs.2.2]
  · rintro k h ⟨o, ho, h1, h2⟩
    exact ⟨o, ho, fun h' e _ => ⟨o, e, h1, h2⟩⟩
end
end Mine

end
section
open PySem PySem.W PyProof.Rows PySem.Calls PySem.Spec
namespace Mine
section
variable {A : Around} {E : Value → Shared → Prop} {env : Env}
/-- the paths of a block's head meet -/
noncomputable def Meet (Mid : Shared → Prop) (s : Shared) : Prop := Mid s
theorem execs_mid {M : Model} (n : Nat) (Mid : Shared → Prop) {l : List Stmt} {s : Shared} {Q : Flow → Shared → Prop}
    (h : wpAny M A (execs (l.take n) env) (fun f s' => match f with | .next => Meet Mid s' | .brk => Q .brk s' | .cont => Q .cont s' | .ret x => Q (.ret x) s') E s)
    (k : ∀ s', Mid s' → wpAny M A (execs (l.drop n) env) Q E s') :
    wpAny M A (execs l env) Q E s := by
  refine execs_cut n (wpAny_mono h (fun f s' h' => ?_) fun _ _ e => e)
  cases f with
  | next => exact k s' h'
  | brk => exact h'
  | cont => exact h'
  | ret x => exact h'
end
end Mine

end
section
open PySem PySem.W PyProof.Rows PySem.Calls PySem.Spec
namespace Mine
/-! what _law_row makes -/
noncomputable def hidL : List Int := [173, 847, 6150, 6155, 6156, 6157, 8203, 8204, 8205, 8288, 65279]
noncomputable def formL : List Int := [65, 97, 119808, 119860, 119912, 120016, 120172, 120224, 120276, 120328, 120380, 120432]
/-- values that are texts of one sign each -/
inductive SgAre : List Value → List Nat → Prop
  | nil : SgAre [] []
  | cons {c : Nat} {t : Tok} {vs : List Value} {cs : List Nat} : SgAre vs cs → SgAre (.str ⟨#[c]⟩ t :: vs) (c :: cs)
theorem SgAre.app {vs : List Value} {cs : List Nat} {c : Nat} {t : Tok} (h : SgAre vs cs) : SgAre (vs ++ [.str ⟨#[c]⟩ t]) (cs ++ [c]) := by
  induction h with
  | nil => exact .cons .nil
  | cons _ ih => exact .cons ih
theorem SgAre.len {vs : List Value} {cs : List Nat} (h : SgAre vs cs) : vs.length = cs.length := by
  induction h with
  | nil => rfl
  | cons _ ih => rw [List.length_cons, List.length_cons, ih]
theorem SgAre.at {vs : List Value} {cs : List Nat} (h : SgAre vs cs) : ∀ {i : Nat} {v : Value}, vs[i]? = some v → ∃ c t, cs[i]? = some c ∧ v = .str ⟨#[c]⟩ t := by
  induction h with
  | nil => intro i v e; simp at e
  | cons _ ih =>
    intro i v e
    cases i with
    | zero => simp at e; exact ⟨_, _, by simp, e.symm⟩
    | succ i => simp at e; obtain ⟨c, t, h1, h2⟩ := ih e; exact ⟨c, t, by simpa using h1, h2⟩
noncomputable def hidAt (r : Nat) : Nat := if r < 12 then (hidL.getD (r - 1) 0).toNat else 65012 + r
noncomputable def c4At (r : Nat) : Nat := if r < 32 then 64976 + r else (r - 32) / 2 * 65536 + 65534 + r % 2
noncomputable def sgA (o : Bool) : List Nat := if o then [32] else []
noncomputable def sgB (o : Bool) (sh : Nat) : List Nat := if sh % 28 = 0 then sgA o else sgA o ++ [hidAt (sh % 28)]
noncomputable def sgC (x : Int) (o : Bool) (sh : Nat) : List Nat := if x < 0 then sgB o sh ++ [c4At (sh % 66)] else sgB o sh
noncomputable def formAt (i : Nat) : Nat := (formL.getD i 0).toNat
noncomputable def sgD (sh : Nat) (cs : List Nat) (b : UInt8) : List Nat := cs ++ [formAt ((sh / 12 + cs.length) % 12) + (b.toNat - 65)]
noncomputable def sgE (x : Int) (o : Bool) (sh : Nat) : List Nat := (wordOf x.natAbs).foldl (sgD sh) (sgC x o sh)
noncomputable def rowF (sh : Nat) (cs : List Nat) : List Nat := if sh / 2 % 2 = 0 then cs else cs.flatMap fun c => [92, c]
noncomputable def rowG (sh : Nat) (r : List Nat) : List Nat := if sh % 2 ≠ 0 ∨ r = [] then 34 :: (r ++ [34]) else if sh / 2 % 2 = 0 then r.flatMap (fun c => if c = 32 then [92, 32] else [c]) else r
noncomputable def wsAt (i : Nat) : Nat := [10, 9, 13, 32].getD i 0
noncomputable def rowOf (x : Int) (o : Bool) (sh : Nat) : List Nat := rowG sh (rowF sh (sgE x o sh)) ++ [wsAt (sh / 3 % 4)]
/-- the state of _law_row between its statements: the signs so far -/
structure RowM (x : Int) (o : Bool) (hi fo sl : Nat) (m : Str → Option Value) : Prop where
  e1 : ∃ t, m "number" = some (.int x t)
  e2 : m "out" = some (.bool o)
  e4 : m "hidden" = some (.ref hi)
  e5 : m "forms" = some (.ref fo)
  e6 : m "signs" = some (.ref sl)
noncomputable abbrev tupO (vs : List Value) : Obj := { cls := .type "tuple", data := .seq vs.toArray }
noncomputable def RowSt (g : Heap) (L : Nat) (s : Shared) (news : Led) (x : Int) (sh : Nat) (o : Bool) (cs : List Nat) (s' : Shared) : Prop :=
  ∃ h tk m hi fo sl n vh vf vs oc t3, s' = { s with heap := h, toks := tk } ∧ Fr g L h m ∧ News g L h ((sl, listOf (List.toArray vs) n) :: (fo, tupO vf) :: (hi, tupO vh) :: (L + 1, oc) :: news) ∧ oc.data = .cell (some (.int (sh : Int) t3)) ∧
    IntsAre vh hidL ∧ IntsAre vf formL ∧ SgAre vs cs ∧ RowM x o hi fo sl m ∧ L + 1 < hi ∧ @LT.lt Nat _ hi fo ∧ @LT.lt Nat _ fo sl ∧ Low L news
noncomputable def rwScope : { x : Scope // x = dScope (st 22) } := ⟨⟨_, _, _, _, _⟩, rfl⟩
noncomputable abbrev rwEnv (L : Addr) : Env := envOfC (Str.ofString "_law_row") rwScope.1 L 207 (.ref 206)
noncomputable def rw3 : { x : Stmt // x = nth (dBody (st 22)) 3 } := ⟨.If _ _ _ _, rfl⟩
noncomputable def rw4 : { x : Stmt // x = nth (dBody (st 22)) 4 } := ⟨.If _ _ _ _, rfl⟩
end Mine

end
section
namespace Mine
theorem hexW_enough : ∀ k n, n ≤ k → hexW k n = wordOf n := by
  have h : ∀ n k j, n ≤ k → n ≤ j → hexW k n = hexW j n := by
    intro n
    induction n using Nat.strongRecOn with
    | ind n ih =>
      intro k j hk hj
      cases n with
      | zero => cases k <;> cases j <;> rfl
      | succ m =>
        cases k with
        | zero => omega
        | succ k =>
          cases j with
          | zero => omega
          | succ j =>
            simp only [hexW]
            rw [ih ((m + 1) / 16) (by omega) k j (by omega) (by omega)]
  intro k n hk
  exact h n k n hk (Nat.le_refl _)
theorem wordOf_zero : wordOf 0 = [] := rfl
theorem wordOf_pos {n : Nat} (h : n ≠ 0) : wordOf n = wordOf (n / 16) ++ [UInt8.ofNat (65 + n % 16)] := by
  cases n with
  | zero => exact absurd rfl h
  | succ m =>
    show hexW (m + 1) (m + 1) = _
    simp only [hexW]
    rw [hexW_enough m _ (by omega)]
theorem wordOf_len : ∀ k n, n < 16 ^ k → (wordOf n).length ≤ k := by
  intro k
  induction k with
  | zero => intro n h; have : n = 0 := by simpa using h
            subst this; exact Nat.le_refl _
  | succ k ih =>
    intro n h
    by_cases h0 : n = 0
    · subst h0; simp [wordOf_zero]
    · rw [wordOf_pos h0, List.length_append, List.length_singleton]
      have := ih (n / 16) (by rw [Nat.div_lt_iff_lt_mul (by decide)]; rw [Nat.pow_succ] at h; exact h)
      omega
end Mine

end
section
open PySem PySem.W PyProof.Rows PySem.Calls PySem.Spec
namespace Mine
noncomputable def rw5 : { x : Stmt // x = nth (dBody (st 22)) 5 } := ⟨.For (.Name _ _) _ _ _ _, rfl⟩
theorem word_small {n : Nat} (h : n < 256) : (wordOf n).length ≤ 2 := wordOf_len 2 n h
theorem sgD_len (sh : Nat) : ∀ (w : List UInt8) (cs : List Nat), (w.foldl (sgD sh) cs).length = cs.length + w.length
  | [], cs => rfl
  | b :: w, cs => by
    rw [List.foldl_cons, sgD_len sh w, sgD, List.length_append, List.length_singleton, List.length_cons]; omega
end Mine

end
section
open PySem PySem.W PyProof.Rows PySem.Calls PySem.Spec
namespace Mine
open LCg LCp LCt
section
variable {prog : Program} {w : World} {A : Around} {h₀ : Heap} {L : Addr} {m : Str → Option Value} {env : Env} {elt : PySem.Expr} {x x₂ : Str} {ct : PySem.Expr} {scope : Scope} {cl : List (Str × Addr)} {s : Shared} {S : Led → Prop} {P : Nat → Value → Prop} {Fin : List Value → Led → Prop}
/-- a comprehension's turns, by what holds of its list and the ledger between them -/
theorem comp_go {n : Nat} (J : Nat → List Value → Led → Prop)
    (turn : ∀ i v ys news I oI C oC D m₂ h tk (E' : Value → Shared → Prop), i < n → J i ys news → P i v → NsObj oC m₂ → m₂ x = some v → Fr h₀ L h m → News h₀ L h ((I, oI) :: (C, oC) :: (D, lst ys) :: news) → Off3 I C D news → ((@Ne Nat I C) ∧ (@Ne Nat I D) ∧ (@Ne Nat C D)) →
      wpAny (model prog w) A (eval elt (compEnvC scope cl C env)) (CompEnd h₀ L m { s with heap := h, toks := tk } I oI C oC D (lst ys) S (fun y news' => J (i + 1) (ys ++ [y]) news')) E' { s with heap := h, toks := tk })
    (fin : ∀ ys news, J n ys news → Fin ys news) : ∀ (k i : Nat) (ys : List Value) (news : Led), i + k = n → J i ys news → CompRest prog w A h₀ L m env elt x scope cl s S P Fin k i ys news
  | 0, i, ys, news, hi, hJ => CompRest.zero (fin ys news ((show i = n by omega) ▸ hJ))
  | k + 1, i, ys, news, hi, hJ => CompRest.succ fun v I oI C oC D m₂ h tk E' hv hC hx F N off ne =>
      wpAny_mono (turn i v ys news I oI C oC D m₂ h tk E' (by omega) hJ hv hC hx F N off ne) (fun y s₂ ⟨h', tk', nw, e, F', N', off', hS, hJ'⟩ => ⟨h', tk', nw, e, F', N', off', hS, comp_go J turn fin k (i + 1) _ nw (by omega) hJ'⟩) fun _ _ e => e
theorem comp_goP {n : Nat} (J : Nat → List Value → Led → Prop)
    (turn : ∀ i v ys news, i < n → J i ys news → P i v → ∃ (t : Addr) (ot : Obj) (v₁ v₂ : Value) (nt : Nat), v = .ref t ∧ (t, ot) ∈ news ∧ ot.cls = .type "tuple" ∧ ot.data = .seq #[v₁, v₂] nt ∧
      ∀ I oI C oC D m₂ h tk (E' : Value → Shared → Prop), NsObj oC m₂ → m₂ x = some v₁ → m₂ x₂ = some v₂ → Fr h₀ L h m → News h₀ L h ((I, oI) :: (C, oC) :: (D, lst ys) :: news) → Off3 I C D news → ((@Ne Nat I C) ∧ (@Ne Nat I D) ∧ (@Ne Nat C D)) →
      wpAny (model prog w) A (eval elt (compEnvC scope cl C env)) (CompEnd h₀ L m { s with heap := h, toks := tk } I oI C oC D (lst ys) S (fun y news' => J (i + 1) (ys ++ [y]) news')) E' { s with heap := h, toks := tk })
    (fin : ∀ ys news, J n ys news → Fin ys news) : ∀ (k i : Nat) (ys : List Value) (news : Led), i + k = n → J i ys news → CompRestP prog w A h₀ L m env elt x x₂ scope cl s S P Fin k i ys news
  | 0, i, ys, news, hi, hJ => CompRestP.zero (fin ys news ((show i = n by omega) ▸ hJ))
  | k + 1, i, ys, news, hi, hJ => CompRestP.succ fun v hv => by
      obtain ⟨t, ot, v₁, v₂, nt, e1, e2, e3, e4, hh⟩ := turn i v ys news (by omega) hJ hv
      exact ⟨t, ot, v₁, v₂, nt, e1, e2, e3, e4, fun I oI C oC D m₂ h tk E' hC hx hx2 F N off ne =>
        wpAny_mono (hh I oI C oC D m₂ h tk E' hC hx hx2 F N off ne) (fun y s₂ ⟨h', tk', nw, e, F', N', off', hS, hJ'⟩ => ⟨h', tk', nw, e, F', N', off', hS, comp_goP J turn fin k (i + 1) _ nw (by omega) hJ'⟩) fun _ _ e => e⟩
theorem comp_goT {n : Nat} (J : Nat → List Value → Led → Prop)
    (turn : ∀ i v ys news I oI C oC D m₂ h tk (E' : Value → Shared → Prop), i < n → J i ys news → P i v → NsObj oC m₂ → m₂ x = some v → Fr h₀ L h m → News h₀ L h ((I, oI) :: (C, oC) :: (D, lst ys) :: news) → Off3 I C D news → ((@Ne Nat I C) ∧ (@Ne Nat I D) ∧ (@Ne Nat C D)) →
      wpAny (model prog w) A (isTrue ct (compEnvC scope cl C env) (eval ct (compEnvC scope cl C env))) (fun ok s' => if ok = true then
        wpAny (model prog w) A (eval elt (compEnvC scope cl C env)) (CompEnd h₀ L m { s with heap := h, toks := tk } I oI C oC D (lst ys) S (fun y news' => J (i + 1) (ys ++ [y]) news')) E' s'
        else CompEnd h₀ L m { s with heap := h, toks := tk } I oI C oC D (lst ys) S (fun _ news' => J (i + 1) ys news') Value.none s') E' { s with heap := h, toks := tk })
    (fin : ∀ ys news, J n ys news → Fin ys news) : ∀ (k i : Nat) (ys : List Value) (news : Led), i + k = n → J i ys news → CompRestT prog w A h₀ L m env ct elt x scope cl s S P Fin k i ys news
  | 0, i, ys, news, hi, hJ => CompRestT.zero (fin ys news ((show i = n by omega) ▸ hJ))
  | k + 1, i, ys, news, hi, hJ => CompRestT.succ fun v I oI C oC D m₂ h tk E' hv hC hx F N off ne =>
      wpAny_mono (turn i v ys news I oI C oC D m₂ h tk E' (by omega) hJ hv hC hx F N off ne) (fun ok s₂ h₂ => by
        cases ok with
        | true =>
          simp only [if_true] at h₂ ⊢
          exact wpAny_mono h₂ (fun y s₃ ⟨h', tk', nw, e, F', N', off', hS, hJ'⟩ => ⟨h', tk', nw, e, F', N', off', hS, comp_goT J turn fin k (i + 1) _ nw (by omega) hJ'⟩) fun _ _ e => e
        | false =>
          simp only [Bool.false_eq_true, if_false] at h₂ ⊢
          obtain ⟨h', tk', nw, e, F', N', off', hS, hJ'⟩ := h₂
          exact ⟨h', tk', nw, e, F', N', off', hS, comp_goT J turn fin k (i + 1) _ nw (by omega) hJ'⟩) fun _ _ e => e
end
noncomputable def rw6 : { x : Stmt // x = nth (dBody (st 22)) 6 } := ⟨.Assign [.Name _ _] _ _, rfl⟩
noncomputable abbrev tx (l : List Nat) : Str := ⟨l.toArray⟩
theorem join_flat : ∀ ls : List (List Nat), Txt.join (Str.ofString "") (ls.map tx) = tx ls.flatten := by
  intro ls
  show Builtin.Str.glued _ _ = _
  rw [PySem.StrLaws.glued_eq_join, show Str.ofString "" = (⟨#[]⟩ : Str) from by decide +kernel]
  induction ls with
  | nil => rfl
  | cons l r ih =>
    cases r with
    | nil => show tx l = _; simp
    | cons l2 r =>
      show (tx l ++ ⟨#[]⟩) ++ Str.join ⟨#[]⟩ (((l2 :: r).map tx)) = _
      rw [ih]
      show (⟨(l.toArray ++ #[]) ++ ((l2 :: r).flatten).toArray⟩ : Str) = _
      simp
theorem join_fits {ls : List (List Nat)} (h : ∀ l ∈ ls, l.length ≤ 1000) (hn : ls.length ≤ 100) : JoinOk (Str.ofString "") (ls.map tx) = true := by
  unfold JoinOk
  rw [PySem.StrLaws.joinFits (B := 1000) (fun y hy => by
    obtain ⟨l, hl, rfl⟩ := List.mem_map.mp hy
    show l.toArray.size ≤ 1000
    rw [List.size_toArray]; exact h l hl) (by
    rw [show (Str.ofString "").length = 0 by decide +kernel, List.length_map]; omega)]
  rfl
end Mine

end
section
open PySem PySem.W PyProof.Rows PySem.Calls PySem.Spec
namespace Mine
theorem flat_free {c : Nat} {z : List Nat} : ∀ {l : List Nat}, c ∉ l → l.flatMap (fun k => if k = c then z else [k]) = l
  | [], _ => rfl
  | k :: r, h => by
    have hk : ¬ k = c := by rintro rfl; exact h (.head _)
    rw [List.flatMap_cons, if_neg hk, flat_free (fun q => h (.tail _ q))]; rfl
theorem join_repl (c : Nat) (z : Str) : ∀ parts : List Str, (∀ q ∈ parts, c ∉ q.cps.toList) →
    (Str.join z parts).cps.toList = (Str.join ⟨#[c]⟩ parts).cps.toList.flatMap (fun k => if k = c then z.cps.toList else [k])
  | [], _ => rfl
  | [x], h => (flat_free (h x (.head _))).symm
  | x :: y :: r, h => by
    have ih := join_repl c z (y :: r) (fun q hq => h q (.tail _ hq))
    show (x.cps ++ z.cps ++ (Str.join z (y :: r)).cps).toList = ((x.cps ++ #[c] ++ (Str.join ⟨#[c]⟩ (y :: r)).cps).toList).flatMap _
    rw [Array.toList_append, Array.toList_append, ih, Array.toList_append, Array.toList_append, List.flatMap_append, List.flatMap_append, flat_free (h x (.head _))]
    simp
theorem replace_flat (x z : Str) (c : Nat) : Txt.replace x ⟨#[c]⟩ z = tx (x.cps.toList.flatMap fun k => if k = c then z.cps.toList else [k]) := by
  rw [PySem.StrLaws.replace_one]
  have h := join_repl c z (Txt.split x ⟨#[c]⟩) (fun q hq => PySem.StrLaws.split_free x c q hq)
  rw [PySem.StrLaws.join_split] at h
  rw [← h]
theorem item_ws {i : Nat} (h : i < 4) : Txt.item (Str.ofString "\n\t\r ") (i : Int) = tx [wsAt i] :=
  (by decide +kernel : ∀ i : Fin 4, Txt.item (Str.ofString "\n\t\r ") ((i.1 : Nat) : Int) = tx [wsAt i.1]) ⟨i, h⟩
theorem sgA_len (o : Bool) : (sgA o).length ≤ 1 := by cases o <;> decide
theorem sgB_len (o : Bool) (sh : Nat) : (sgB o sh).length ≤ 2 := by
  have := sgA_len o
  unfold sgB
  by_cases h : sh % 28 = 0
  · rw [if_pos h]; omega
  · rw [if_neg h, List.length_append, List.length_singleton]; omega
theorem sgC_len (x : Int) (o : Bool) (sh : Nat) : (sgC x o sh).length ≤ 3 := by
  have := sgB_len o sh
  unfold sgC
  by_cases h : x < 0
  · rw [if_pos h, List.length_append, List.length_singleton]; omega
  · rw [if_neg h]; omega
theorem sgE_len {x : Int} (hx : x.natAbs < 256) (o : Bool) (sh : Nat) : (sgE x o sh).length ≤ 5 := by
  have h1 := sgC_len x o sh
  have h2 := word_small hx
  unfold sgE
  rw [sgD_len]; omega
theorem rowF_len (sh : Nat) (cs : List Nat) : (rowF sh cs).length ≤ 2 * cs.length := by
  unfold rowF
  by_cases h : sh / 2 % 2 = 0
  · rw [if_pos h]; omega
  · rw [if_neg h]
    induction cs with
    | nil => exact Nat.zero_le _
    | cons c r ih => rw [List.flatMap_cons, List.length_append, List.length_cons]; simp only [List.length_cons, List.length_nil]; omega
theorem sg_sp {t : Tok} : SgAre [.str (Str.ofString " ") t] [32] := by
  rw [show Str.ofString " " = (⟨#[32]⟩ : Str) from by decide +kernel]
  exact .cons .nil
end Mine

end
section
open PySem PySem.W PyProof.Rows PySem.Calls PySem.Spec
namespace Mine
/-- a claim of a function whose caller's base holds what P says -/
noncomputable def ClaimP (Pre : Heap → Prop) (w : World) (p : Program) (loose : List Str) (mean : ExcName → Option Value) (mg mb : Str → Option Value) (n : Nat) (f : Addr) (vs : List Value) (news : Led) (Post : Value → Led → Prop) : Prop :=
  ∀ (dp un : Nat) (gd : Option (List Code)) (cn : Str) (cs : Scope) (a : Addr) (ccd : Value) (cl : List (Str × Addr)) (outer : List Env) (A₀ : Around) (base h₀ : Heap) (L : Addr) (m : Str → Option Value) (s : Shared) (R : Result → Shared → Prop),
    Pre h₀ → Below A₀ base outer h₀ → Fr h₀ L s.heap m → (K w.params).In h₀ → News h₀ L s.heap news → Top p loose mean mg mb h₀ → cs.kind = .function →
    dp + n < recursionLimit → un + 10 * n < cLine →
    (∀ (v : Value) (news' : Led) (h' : Heap) (tk' : Nat), Post v news' → Fr h₀ L h' m → News h₀ L h' news' → R (.ok (.ret v)) { s with heap := h', toks := tk' }) →
    codeAny (model Pw w) (ktrTop dp un gd cn cs L a ccd cl outer) (.call (.ref f) ⟨vs, []⟩) R s
end Mine

end
section
open PySem PySem.W PyProof.Rows PySem.Calls PySem.Spec
namespace Mine
noncomputable def drScope : { x : Scope // x = dScope (st 21) } := ⟨⟨_, _, _, _, _⟩, rfl⟩
noncomputable abbrev drEnv (L : Addr) : Env := envOfC (Str.ofString "_law_drawn") drScope.1 L 202 (.ref 201)
noncomputable def dr1 : { x : Stmt // x = nth (dBody (st 21)) 1 } := ⟨.For (.Name _ _) _ _ _ _, rfl⟩
noncomputable def dr2 : { x : Stmt // x = nth (dBody (st 21)) 2 } := ⟨.Assign [.Name _ _] _ _, rfl⟩
noncomputable def dr3 : { x : Stmt // x = nth (dBody (st 21)) 3 } := ⟨.Assign [.Name _ _] _ _, rfl⟩
noncomputable def dr4 : { x : Stmt // x = nth (dBody (st 21)) 4 } := ⟨.Assign [.Name _ _] _ _, rfl⟩
noncomputable def dr5 : { x : Stmt // x = nth (dBody (st 21)) 5 } := ⟨.Return _ _, rfl⟩
/-- six sums, each no less than nought and below b -/
noncomputable def SumsOk (b : Int) (zs : List Int) : Prop := zs.length = 6 ∧ ∀ z ∈ zs, 0 ≤ z ∧ z < b
noncomputable def DrA (g : Heap) (L : Nat) (s : Shared) (news : Led) (sc : Addr) (b : Int) (s' : Shared) : Prop :=
  ∃ h tk m sl n ws zs o1 o2 o3, s' = { s with heap := h, toks := tk } ∧ Fr g L h m ∧ News g L h ((sl, listOf (List.toArray ws) n) :: (L + 1 + 1 + 1, o3) :: (L + 1 + 1, o2) :: (L + 1, o1) :: news) ∧
    o1.data = .cell (some (.ref sl)) ∧ o2.data = .cell none ∧ o3.data = .cell none ∧ IntsAre ws zs ∧ SumsOk b zs ∧ m "script" = some (.ref sc) ∧ L + 1 + 1 + 1 < sl ∧ Low L news
theorem smallN {n : Nat} (h : n < 64) : Builtin.Range.small 0 (n : Int) 1 = true := (by decide +kernel : ∀ d : Fin 64, Builtin.Range.small 0 ((d : Nat) : Int) 1 = true) ⟨n, h⟩
theorem sizeN {n : Nat} (h : n < 64) : Builtin.Range.rangeSize 0 (n : Int) 1 = (n : Int) := (by decide +kernel : ∀ d : Fin 64, Builtin.Range.rangeSize 0 ((d : Nat) : Int) 1 = ((d : Nat) : Int)) ⟨n, h⟩
theorem ints_set {x : Int} {t : Tok} : ∀ {vs : List Value} {ns : List Int} (i : Nat), IntsAre vs ns → IntsAre (vs.set i (.int x t)) (ns.set i x)
  | _, _, _, .nil => .nil
  | _, _, 0, .cons n u h => .cons x t h
  | _, _, i + 1, .cons n u h => .cons n u (ints_set i h)
theorem sums_set {b c x : Int} {zs : List Int} (i : Nat) (h : SumsOk b zs) (hb : b ≤ c) (h0 : 0 ≤ x) (h1 : x < c) : SumsOk c (zs.set i x) := by
  refine ⟨by rw [List.length_set]; exact h.1, fun z hz => ?_⟩
  rcases List.mem_or_eq_of_mem_set hz with hz | rfl
  · have := h.2 z hz; omega
  · exact ⟨h0, h1⟩
theorem sums_get {b : Int} {zs : List Int} (h : SumsOk b zs) {i : Nat} (hi : i < 6) : 0 ≤ zs.getD i 0 ∧ zs.getD i 0 < b := by
  have hl : i < zs.length := by rw [h.1]; exact hi
  rw [List.getD_eq_getElem?_getD, List.getElem?_eq_getElem hl]
  exact h.2 _ (List.getElem_mem hl)
section
open LCg
variable {prog : Program} {w : World} {A : Around} {E : Value → Shared → Prop} {s : Shared} {h₀ : Heap} {L : Addr} {m : Str → Option Value} {env : Env}
theorem ListComp_V {elt iter : PySem.Expr} {x : Str} {px : Pos} {scope : Scope} {cl : List (Str × Addr)} {pos : Pos} {Q : Value → Shared → Prop} (F₀ : Fr h₀ L s.heap m := by k_asm)
    (hclos : closureFor scope env = pure cl := by with_unfolding_all rfl) (hcell : ∀ y ∈ scope.names, y.2 ≠ .cell := by decide) (hkind : scope.kind = .function := by rfl)
    (hnames : ∀ y ∈ scope.names, y.2 = .local → scope.names.lookup y.1 = some .local := by decide) (hx : scope.names.lookup x = some .local := by rfl)
    (h : wpAny (model prog w) A (eval iter env) (CompSrc prog w A h₀ L m env elt x scope cl (fun s₂ => FinE h₀ L m s₂ Q)) E s)
    (hs : ∀ x, foldedSetIterable iter env x = pure x := by intro _; rfl) :
    wpAny (model prog w) A (eval (.ListComp elt [⟨.Name x px, iter, [], 0⟩] scope pos) env) Q E s := LCg.ListComp_U F₀ hclos hcell hkind hnames hx h hs
theorem Assign_ListComp_V {elt iter : PySem.Expr} {x y : Str} {px py : Pos} {scope : Scope} {cl : List (Str × Addr)} {pos spos : Pos} {Q : Flow → Shared → Prop} (F₀ : Fr h₀ L s.heap m := by k_asm) (hLe : env.locals = L := by rfl)
    (hsw : swapsWith (.ListComp elt [⟨.Name x px, iter, [], 0⟩] scope pos) (some (.Name y py)) spos.line env = pure true := by with_unfolding_all rfl)
    (hclos : closureFor scope env = pure cl := by with_unfolding_all rfl) (hcell : ∀ z ∈ scope.names, z.2 ≠ .cell := by decide) (hkind : scope.kind = .function := by rfl)
    (hnames : ∀ z ∈ scope.names, z.2 = .local → scope.names.lookup z.1 = some .local := by decide) (hx : scope.names.lookup x = some .local := by rfl)
    (hy : env.kindOf y = some .local := by rfl) (hp : (env.scope.kind == .class || (env.scope.kind == .module && env.locals != env.globals)) = false := by rfl)
    (h : wpAny (model prog w) A (eval iter env) (CompSrc prog w A h₀ L m env elt x scope cl (fun s₂ => FinA h₀ L m s₂ y Q)) E s)
    (hs : ∀ x, foldedSetIterable iter env x = pure x := by intro _; rfl) :
    wpAny (model prog w) A (exec (.Assign [.Name y py] (.ListComp elt [⟨.Name x px, iter, [], 0⟩] scope pos) spos) env) Q E s := LCg.Assign_ListComp_U F₀ hLe hsw hclos hcell hkind hnames hx hy hp h hs
end
end Mine

end
section
open PySem PySem.W PyProof.Rows PySem.Calls PySem.Spec
namespace Mine
open LCg
section
variable {prog : Program} {w : World} {A : Around} {E : Value → Shared → Prop} {s : Shared} {h₀ : Heap} {L : Addr} {m : Str → Option Value} {env : Env}
/-- how a comprehension's loop begins and ends: its names at C, its list at D -/
noncomputable def CompRun (prog : Program) (w : World) (A : Around) (h₀ : Heap) (L : Addr) (m : Str → Option Value) (env : Env) (e : PySem.Expr) (scope : Scope) (cl : List (Str × Addr)) (Fin : List Value → Led → Prop) (s₂ : Shared) (it : Value) : Prop :=
  ∃ news, Fr h₀ L s₂.heap m ∧ News h₀ L s₂.heap news ∧ ∀ C D oC h tk, NsObj oC (fun _ => none) → Fr h₀ L h m → News h₀ L h ((C, oC) :: (D, lst []) :: news) → (∀ p ∈ news, p.1 ≠ C) → (∀ p ∈ news, p.1 ≠ D) → @Ne Nat C D →
    (∀ b o, s₂.heap.get? b = some o → h.get? b = some o) → (∀ b o, s₂.heap.get? b = some o → b ≠ C ∧ b ≠ D) →
    codeAny (model prog w) A (.compStart e 0 it (.ref D) (compEnvC scope cl C env))
      (fun r s' => r = .ok .next ∧ ∃ h' tk' oC' m' ys news', s' = { s₂ with heap := h', toks := tk' } ∧ Fr h₀ L h' m ∧ NsObj oC' m' ∧ News h₀ L h' ((C, oC') :: (D, lst ys) :: news') ∧ (∀ p ∈ news', p.1 ≠ C) ∧ Off1 D news' ∧ Fin ys news') { s₂ with heap := h, toks := tk }
theorem comp_setup {elt target iter : PySem.Expr} {rest : List Comprehension} {scope : Scope} {cl : List (Str × Addr)} {pos : Pos} {Q : Value → Shared → Prop}
    (hclos : closureFor scope env = pure cl) (hcell : ∀ y ∈ scope.names, y.2 ≠ .cell) (hkind : scope.kind = .function)
    (hnames : ∀ y ∈ scope.names, y.2 = .local → scope.names.lookup y.1 = some .local)
    (h : wpAny (model prog w) A (eval iter env) (fun xv s₁ => wpAny (model prog w) A (pyIter xv) (fun it s₂ => CompRun prog w A h₀ L m env (.ListComp elt (⟨target, iter, [], 0⟩ :: rest) scope pos) scope cl (FinE h₀ L m s₂ Q) s₂ it) E s₁) E s)
    (hs : ∀ x, foldedSetIterable iter env x = pure x := by intro _; rfl) :
    wpAny (model prog w) A (eval (.ListComp elt (⟨target, iter, [], 0⟩ :: rest) scope pos) env) Q E s := by
  rw [eval_ListComp]
  refine wpAny_comprehension_free (use := none) rfl hs hclos hkind hnames (wpAny_mono h (fun xv s₁ h₁ => wpAny_mono h₁ (fun it s₂ h₂ => ?_) fun _ _ e => e) fun _ _ e => e)
  obtain ⟨news, F, N, R⟩ := h₂
  refine wpAny_newObj_type (wpAny_newFunctionEnv hcell (by intro y hy; simp at hy) (fun h₁ hns₁ hsb₁ => ?_) hkind)
  dsimp only at hns₁ hsb₁ ⊢
  generalize hH2 : s₂.heap.push { cls := .type "list", dict := none, data := .seq ([] : List Value).toArray } = H2 at hns₁ hsb₁ ⊢
  have hC : H2.objs.size = s₂.heap.objs.size + 1 := by rw [← hH2, Heap.size_push]
  have hDC : s₂.heap.objs.size ≠ H2.objs.size := by rw [hC]; exact Nat.ne_of_lt (Nat.lt_succ_self _)
  have below : ∀ b, b < s₂.heap.objs.size → b ≠ H2.objs.size ∧ b ≠ s₂.heap.objs.size := fun b hb => ⟨by rw [hC]; exact Nat.ne_of_lt (Nat.lt_succ_of_lt hb), Nat.ne_of_lt hb⟩
  have old : ∀ b o, s₂.heap.get? b = some o → h₁.get? b = some o := fun b o e => hsb₁.extBut b o (below b (Heap.lt_size e)).1 (Heap.get?_push_of_some _ (hH2 ▸ Heap.get?_push_of_some _ e))
  have hacc : h₁.get? s₂.heap.objs.size = some (lst []) := hsb₁.extBut _ _ hDC (Heap.get?_push_of_some _ (hH2 ▸ Heap.get?_push_size _ rfl))
  have fresh₀ : ∀ a, s₂.heap.objs.size ≤ a → h₀.get? a = none := fun a ha => by
    cases e : h₀.get? a with
    | none => rfl
    | some o' => exact absurd (Heap.lt_size (F.keep a o' e)) (Nat.not_lt.mpr ha)
  have hD₀ : h₀.get? s₂.heap.objs.size = none := fresh₀ _ (Nat.le_refl _)
  have hC₀ : h₀.get? H2.objs.size = none := fresh₀ _ (by rw [hC]; exact Nat.le_succ _)
  have hLlt : L < s₂.heap.objs.size := F.ns.lt
  have hDL : s₂.heap.objs.size ≠ L := Ne.symm (below L hLlt).2
  have hCL : H2.objs.size ≠ L := Ne.symm (below L hLlt).1
  obtain ⟨oC, heC, hoC⟩ := ns_obj hns₁
  have N₁ : News h₀ L h₁ ((H2.objs.size, oC) :: (s₂.heap.objs.size, lst []) :: news) := fun p hp => by
    rcases List.mem_cons.mp hp with rfl | hp
    · exact ⟨heC, hCL, hC₀⟩
    · rcases List.mem_cons.mp hp with rfl | hp
      · exact ⟨hacc, hDL, hD₀⟩
      · exact ⟨old _ _ (N p hp).1, (N p hp).2⟩
  have R' := R H2.objs.size s₂.heap.objs.size oC h₁ (s₂.toks + ([] : List (Str × Value)).length) (by simpa using hoC) (F.keeps old) N₁ (fun p hp => (below _ (Heap.lt_size (N p hp).1)).1) (fun p hp => (below _ (Heap.lt_size (N p hp).1)).2) (Ne.symm hDC) old (fun b o e => below b (Heap.lt_size e))
  refine codeAny_mono R' ?_
  rintro r s' ⟨rfl, h', tk', oC', m', ys, news', rfl, F', hoC', N', offC, o1, fin⟩
  refine ⟨m', hoC'.ns (N' (H2.objs.size, oC') (.head _)).1, fun h'' hs'' => fin s₂.heap.objs.size h'' tk' (F'.change hs'' hCL hC₀) (fun p hp => ?_) o1⟩
  refine ⟨hs''.extBut _ _ ?_ (N' p (.tail _ hp)).1, (N' p (.tail _ hp)).2⟩
  rcases List.mem_cons.mp hp with rfl | hp
  · exact hDC
  · exact offC p hp
end
end Mine

end
section
open PySem PySem.W PyProof.Rows PySem.Calls PySem.Spec
namespace Mine
open LCg
section
variable {prog : Program} {w : World} {A : Around} {E : Value → Shared → Prop} {R : Result → Shared → Prop} {s₂ : Shared} {h₀ : Heap} {L : Addr} {m : Str → Option Value}
/-- a comprehension's loop over a range, by what holds between its turns -/
theorem comp_walk {c : Code} {body : Sem Fin} {x : Str} {px ip : Pos} {cenv : Env} {I C D : Addr} {n : Nat} (hq : c.quiet = true) (hu : A.under c = A)
    (hden : (model prog w).den c = (standAt ip >>= fun _ => pyNext (.ref I) >>= fun r => match r with
      | none => pure (.done .next)
      | some v => letOwnedTupleGo (.Name x px) (.ref I) v >>= fun _ => assign (.Name x px) cenv v >>= fun _ => body : Sem Fin).onRaise (fun x => do noteFrame x cenv; theTreesLotGoes x))
    (hh : A.handled = none) (hCe : cenv.locals = C) (hx : cenv.kindOf x = some .local) (hp : (cenv.scope.kind == .class || (cenv.scope.kind == .module && cenv.locals != cenv.globals)) = false)
    (J : Nat → List Value → Led → (Str → Option Value) → Prop)
    (turn : ∀ i ys news oI oC m₁ m₂ h tk t (E' : Value → Shared → Prop), i < n → J i ys news m₁ → NsObj oC m₂ → m₂ x = some (.int (i : Nat) t) → (∀ z, z ≠ x → m₂ z = m₁ z) → Fr h₀ L h m → News h₀ L h ((I, oI) :: (C, oC) :: (D, lst ys) :: news) → Off3 I C D news →
      wpAny (model prog w) A body (fun f s' => f = .again c ∧ ∃ h' tk' oC' m' ys' news', s' = { s₂ with heap := h', toks := tk' } ∧ Fr h₀ L h' m ∧ NsObj oC' m' ∧ News h₀ L h' ((I, oI) :: (C, oC') :: (D, lst ys') :: news') ∧ Off3 I C D news' ∧ J (i + 1) ys' news' m') E' { s₂ with heap := h, toks := tk })
    (fin : ∀ h tk oC m₂ ys news, Fr h₀ L h m → NsObj oC m₂ → News h₀ L h ((C, oC) :: (D, lst ys) :: news) → Off3 I C D news → J n ys news m₂ → R (.ok .next) { s₂ with heap := h, toks := tk })
    {h : Heap} {tk : Nat} {oC : Obj} {m₁ : Str → Option Value} {ys : List Value} {news : Led} (hI : IsRangeIter h I 0 (n : Int) 1) (F : Fr h₀ L h m) (hC : NsObj oC m₁) (N : News h₀ L h ((C, oC) :: (D, lst ys) :: news)) (off : Off3 I C D news)
    (hIL : L ≠ I) (hI₀ : h₀.get? I = none) (hCI : I ≠ C) (hDI : I ≠ D) (hCD : C ≠ D) (hJ : J 0 ys news m₁) : codeAny (model prog w) A c R { s₂ with heap := h, toks := tk } := by
  subst hCe
  have hCL : cenv.locals ≠ L := (N _ (.head _)).2.1
  have hC₀ := (N _ (.head _)).2.2
  have hDL : D ≠ L := (N _ (.tail _ (.head _))).2.1
  have hD₀ := (N _ (.tail _ (.head _))).2.2
  have W := range_walks (prog := prog) (w := w) (I := I) hh 0 n
  refine codeAny_loop hq (fun k s' => ∃ h tk i oC m₁ ys news, s' = { s₂ with heap := h, toks := tk } ∧ i ≤ n ∧ k = n + 1 - i ∧ IsRangeIter h I (0 + (i : Nat) * 1) ((n : Int) - (i : Nat)) 1 ∧ Fr h₀ L h m ∧ NsObj oC m₁ ∧ News h₀ L h ((cenv.locals, oC) :: (D, lst ys) :: news) ∧ Off3 I cenv.locals D news ∧ J i ys news m₁) ?_ (n + 1)
    ⟨h, tk, 0, oC, m₁, ys, news, rfl, Nat.zero_le _, rfl, by simpa using hI, F, hC, N, off, hJ⟩
  clear hI F hC N off hJ
  rintro k s' ⟨h, tk, i, oC, m₁, ys, news, rfl, hi, rfl, st, F, hC, N, off, hJ⟩
  rw [hu, hden]
  refine wpAny_noted ?_
  refine wpAny_bind (wpAny_standAt (wpAny_bind ?_))
  have offm := off.mem
  by_cases hlt : i < n
  · refine W.item i _ _ _ hlt st fun v h₁ tk₁ hv st₁ hk₁ => ?_
    obtain ⟨t, rfl⟩ := hv
    rw [Int.zero_add]
    refine wpAny_bind (wpAny_of_eq (a := ()) rfl (wpAny_bind ?_))
    have N₁ : News h₀ L h₁ ((cenv.locals, oC) :: (D, lst ys) :: news) := news_but N hk₁ fun p hp => by
      rcases List.mem_cons.mp hp with rfl | hp
      · exact Ne.symm hCI
      · rcases List.mem_cons.mp hp with rfl | hp
        · exact Ne.symm hDI
        · exact (offm p hp).1
    refine wpAny_assign_Name (wpAny_storeName_local hx (hC.ns (N₁ _ (.head _)).1) (fun h₂ hn₂ hs₂ => ?_) hp)
    have st₂ : IsRangeIter h₂ I (0 + ((i + 1 : Nat) : Nat) * 1) ((n : Int) - ((i + 1 : Nat) : Nat)) 1 := hs₂.extBut _ _ hCI st₁
    obtain ⟨oI, heI, hoI⟩ : ∃ oI : Obj, h₂.get? I = some oI ∧ ∀ h : Heap, h.get? I = some oI → IsRangeIter h I (0 + ((i + 1 : Nat) : Nat) * 1) ((n : Int) - ((i + 1 : Nat) : Nat)) 1 := ⟨_, st₂, fun _ e => e⟩
    obtain ⟨oC₂, heC, hoC⟩ := ns_obj hn₂
    have F₂ : Fr h₀ L h₂ m := (fr_but F hk₁ hIL hI₀).change hs₂ hCL hC₀
    refine wpAny_mono (turn i ys news oI oC₂ m₁ _ h₂ _ t _ hlt hJ hoC (by simp) (fun z hz => by simp [hz]) F₂ (fun p hp => ?_) off) (fun f s' h' => ?_) fun _ _ e => e
    · rcases List.mem_cons.mp hp with rfl | hp
      · exact ⟨heI, Ne.symm hIL, hI₀⟩
      · rcases List.mem_cons.mp hp with rfl | hp
        · exact ⟨heC, hCL, hC₀⟩
        · have z := N₁ p (.tail _ hp)
          refine ⟨hs₂.extBut _ _ ?_ z.1, z.2⟩
          rcases List.mem_cons.mp hp with rfl | hp
          · exact Ne.symm hCD
          · exact (offm p hp).2.1
    · obtain ⟨rfl, h₃, tk₃, oC₃, m₃, ys₃, news₃, rfl, F₃, hC₃, N₃, off₃, hJ₃⟩ := h'
      exact ⟨rfl, n + 1 - (i + 1), by omega, h₃, tk₃, i + 1, oC₃, m₃, ys₃, news₃, rfl, hlt, rfl, hoI h₃ (N₃ _ (.head _)).1, F₃, hC₃, fun p hp => N₃ p (.tail _ hp), off₃, hJ₃⟩
  · obtain rfl : i = n := Nat.le_antisymm hi (Nat.not_lt.mp hlt)
    refine W.done _ _ _ st fun h₁ tk₁ hk₁ => ?_
    refine wpAny_pure ?_
    refine fin h₁ _ oC m₁ ys news (fr_but F hk₁ hIL hI₀) hC (news_but N hk₁ fun p hp => ?_) off hJ
    rcases List.mem_cons.mp hp with rfl | hp
    · exact Ne.symm hCI
    · rcases List.mem_cons.mp hp with rfl | hp
      · exact Ne.symm hDI
      · exact (offm p hp).1
theorem compStart_0 {elt t1 i1 t2 i2 : PySem.Expr} {scope : Scope} {pos : Pos} {it acc : Value} {env : Env} {s : Shared}
    (h0 : codeAny (model prog w) A (.compLoop (.ListComp elt [⟨t1, i1, [], 0⟩, ⟨t2, i2, [], 0⟩] scope pos) 0 it acc env) R s)
    (h : wpAny (model prog w) A (pyIter it) (fun it' s' => codeAny (model prog w) A (.compLoop (.ListComp elt [⟨t1, i1, [], 0⟩, ⟨t2, i2, [], 0⟩] scope pos) 0 it' acc env) R s') (notedBy (model prog w) A env fun x s' => R (.error x) s') s) :
    codeAny (model prog w) A (.compStart (.ListComp elt [⟨t1, i1, [], 0⟩, ⟨t2, i2, [], 0⟩] scope pos) 0 it acc env) R s := codeAny_compStart_list h0 h
theorem compStart_1 {elt t1 i1 t2 i2 : PySem.Expr} {scope : Scope} {pos : Pos} {it acc : Value} {env : Env} {s : Shared}
    (h0 : codeAny (model prog w) A (.compLoop (.ListComp elt [⟨t1, i1, [], 0⟩, ⟨t2, i2, [], 0⟩] scope pos) 1 it acc env) R s)
    (h : wpAny (model prog w) A (pyIter it) (fun it' s' => codeAny (model prog w) A (.compLoop (.ListComp elt [⟨t1, i1, [], 0⟩, ⟨t2, i2, [], 0⟩] scope pos) 1 it' acc env) R s') (notedBy (model prog w) A env fun x s' => R (.error x) s') s) :
    codeAny (model prog w) A (.compStart (.ListComp elt [⟨t1, i1, [], 0⟩, ⟨t2, i2, [], 0⟩] scope pos) 1 it acc env) R s := by
  refine codeAny_of_tree ?_
  show wpAny _ _ ((compStart (.ListComp elt [⟨t1, i1, [], 0⟩, ⟨t2, i2, [], 0⟩] scope pos) 1 it acc env).onRaise (fun x => do noteFrame x env; standAt theWindowsPlace)) _ _ s
  refine wpAny_notedAt ?_
  unfold compStart
  show wpAny _ _ (ask >>= _) _ _ s
  refine wpAny_bind (wpAny_askSetting (wpAny_ite ?_))
  split
  · first
      | exact wpAny_bind (wpAny_pure (wpAny_pure (And.intro rfl h0)))
      | exact wpAny_pure (And.intro rfl h0)
  · first
      | exact wpAny_bind (wpAny_rule (wpAny_bind (wpAny_standAt (wpAny_bind (wpAny_mono h (fun it' s' h' => wpAny_pure (And.intro rfl h')) fun _ _ x => x)))))
      | (refine wpAny_bind (wpAny_rule ?_); show wpAny _ _ (standAt i2.pos >>= _) _ _ s; exact wpAny_bind (wpAny_standAt (wpAny_bind (wpAny_mono h (fun it' s' h' => wpAny_pure (And.intro rfl h')) fun _ _ x => x))))
theorem compTurn_0 (elt t1 i1 t2 i2 : PySem.Expr) (scope : Scope) (pos : Pos) (it acc : Value) (env : Env) :
    compTurn (.ListComp elt [⟨t1, i1, [], 0⟩, ⟨t2, i2, [], 0⟩] scope pos) 0 it acc env = (standAt i1.pos >>= fun _ => pyNext it >>= fun r => match r with
      | none => pure (.done .next)
      | some v => letOwnedTupleGo t1 it v >>= fun _ => assign t1 env v >>= fun _ =>
        eval i2 env >>= fun x => standAt i2.pos >>= fun _ => foldedSetIterable i2 env x >>= fun x => holding [x] (pyIter x) >>= fun it2 => runOwn (.compStart (.ListComp elt [⟨t1, i1, [], 0⟩, ⟨t2, i2, [], 0⟩] scope pos) 1 it2 acc env) env >>= fun _ =>
          again (.compLoop (.ListComp elt [⟨t1, i1, [], 0⟩, ⟨t2, i2, [], 0⟩] scope pos) 0 it acc env)) := by rfl
theorem compTurn_1 (elt t1 i1 t2 i2 : PySem.Expr) (scope : Scope) (pos : Pos) (it acc : Value) (env : Env) :
    compTurn (.ListComp elt [⟨t1, i1, [], 0⟩, ⟨t2, i2, [], 0⟩] scope pos) 1 it acc env = (standAt i2.pos >>= fun _ => pyNext it >>= fun r => match r with
      | none => pure (.done .next)
      | some v => letOwnedTupleGo t2 it v >>= fun _ => assign t2 env v >>= fun _ =>
        (eval elt env >>= fun x => call (.builtin "list.append") [acc, x] >>= fun _ => pure ()) >>= fun _ =>
          again (.compLoop (.ListComp elt [⟨t1, i1, [], 0⟩, ⟨t2, i2, [], 0⟩] scope pos) 1 it acc env)) := by rfl
end
section
variable {prog : Program} {w : World} {A : Around} {E : Value → Shared → Prop} {s₂ : Shared} {h₀ : Heap} {L : Addr} {m : Str → Option Value} {env : Env}
theorem comp_block {e : PySem.Expr} {scope : Scope} {cl : List (Str × Addr)} {Fin : List Value → Led → Prop} {RR : Value → Addr → Result → Shared → Prop} {it : Value}
    (hcell : ∀ y ∈ scope.names, y.2 ≠ .cell) (hkind : scope.kind = .function) (h₂ : CompRun prog w A h₀ L m env e scope cl Fin s₂ it)
    (hRR : ∀ D C h tk m' ys news', Fr h₀ L h m → News h₀ L h ((D, lst ys) :: news') → Off1 D news' → h.Ns C m' → h₀.get? C = none → h₀.get? D = none → C ≠ L → D ≠ L → C ≠ D → (∀ p ∈ news', p.1 ≠ C) → Fin ys news' → RR (.ref D) C (.ok .next) { s₂ with heap := h, toks := tk }) :
    wpAny (model prog w) A (newList []) (fun acc s₃ => wpAny (model prog w) A (newFunctionEnv scope env.globals cl [] env.qual none .none (some env)) (fun cenv s₄ =>
      codeAny (model prog w) A (.compStart e 0 it acc { cenv with scope := relabel scope env }) (RR acc cenv.locals) s₄) E s₃) E s₂ := by
  obtain ⟨news, F, N, R⟩ := h₂
  refine wpAny_newObj_type (wpAny_newFunctionEnv hcell (by intro y hy; simp at hy) (fun h₁ hns₁ hsb₁ => ?_) hkind)
  dsimp only at hns₁ hsb₁ ⊢
  generalize hH2 : s₂.heap.push { cls := .type "list", dict := none, data := .seq ([] : List Value).toArray } = H2 at hns₁ hsb₁ ⊢
  have hC : H2.objs.size = s₂.heap.objs.size + 1 := by rw [← hH2, Heap.size_push]
  have hDC : s₂.heap.objs.size ≠ H2.objs.size := by rw [hC]; exact Nat.ne_of_lt (Nat.lt_succ_self _)
  have below : ∀ b, b < s₂.heap.objs.size → b ≠ H2.objs.size ∧ b ≠ s₂.heap.objs.size := fun b hb => ⟨by rw [hC]; exact Nat.ne_of_lt (Nat.lt_succ_of_lt hb), Nat.ne_of_lt hb⟩
  have old : ∀ b o, s₂.heap.get? b = some o → h₁.get? b = some o := fun b o e => hsb₁.extBut b o (below b (Heap.lt_size e)).1 (Heap.get?_push_of_some _ (hH2 ▸ Heap.get?_push_of_some _ e))
  have hacc : h₁.get? s₂.heap.objs.size = some (lst []) := hsb₁.extBut _ _ hDC (Heap.get?_push_of_some _ (hH2 ▸ Heap.get?_push_size _ rfl))
  have fresh₀ : ∀ a, s₂.heap.objs.size ≤ a → h₀.get? a = none := fun a ha => by
    cases e : h₀.get? a with
    | none => rfl
    | some o' => exact absurd (Heap.lt_size (F.keep a o' e)) (Nat.not_lt.mpr ha)
  have hD₀ : h₀.get? s₂.heap.objs.size = none := fresh₀ _ (Nat.le_refl _)
  have hC₀ : h₀.get? H2.objs.size = none := fresh₀ _ (by rw [hC]; exact Nat.le_succ _)
  have hLlt : L < s₂.heap.objs.size := F.ns.lt
  have hDL : s₂.heap.objs.size ≠ L := Ne.symm (below L hLlt).2
  have hCL : H2.objs.size ≠ L := Ne.symm (below L hLlt).1
  obtain ⟨oC, heC, hoC⟩ := ns_obj hns₁
  have N₁ : News h₀ L h₁ ((H2.objs.size, oC) :: (s₂.heap.objs.size, lst []) :: news) := fun p hp => by
    rcases List.mem_cons.mp hp with rfl | hp
    · exact ⟨heC, hCL, hC₀⟩
    · rcases List.mem_cons.mp hp with rfl | hp
      · exact ⟨hacc, hDL, hD₀⟩
      · exact ⟨old _ _ (N p hp).1, (N p hp).2⟩
  have R' := R H2.objs.size s₂.heap.objs.size oC h₁ (s₂.toks + ([] : List (Str × Value)).length) (by simpa using hoC) (F.keeps old) N₁ (fun p hp => (below _ (Heap.lt_size (N p hp).1)).1) (fun p hp => (below _ (Heap.lt_size (N p hp).1)).2) (Ne.symm hDC) old (fun b o e => below b (Heap.lt_size e))
  refine codeAny_mono R' ?_
  rintro r s' ⟨rfl, h', tk', oC', m', ys, news', rfl, F', hoC', N', offC, o1, fin⟩
  exact hRR _ _ h' tk' m' ys news' F' (fun p hp => N' p (.tail _ hp)) o1 (hoC'.ns (N' (H2.objs.size, oC') (.head _)).1) hC₀ hD₀ hCL hDL (Ne.symm hDC) offC fin
theorem comp_setupA {elt target iter : PySem.Expr} {rest : List Comprehension} {scope : Scope} {cl : List (Str × Addr)} {pos py spos : Pos} {y : Str} {Q : Flow → Shared → Prop} {s : Shared} (hLe : env.locals = L)
    (hsw : swapsWith (.ListComp elt (⟨target, iter, [], 0⟩ :: rest) scope pos) (some (.Name y py)) spos.line env = pure true)
    (hclos : closureFor scope env = pure cl) (hcell : ∀ y ∈ scope.names, y.2 ≠ .cell) (hkind : scope.kind = .function)
    (hnames : ∀ y ∈ scope.names, y.2 = .local → scope.names.lookup y.1 = some .local)
    (hy : env.kindOf y = some .local) (hp : (env.scope.kind == .class || (env.scope.kind == .module && env.locals != env.globals)) = false)
    (h : wpAny (model prog w) A (eval iter env) (fun xv s₁ => wpAny (model prog w) A (pyIter xv) (fun it s₂ => CompRun prog w A h₀ L m env (.ListComp elt (⟨target, iter, [], 0⟩ :: rest) scope pos) scope cl (FinA h₀ L m s₂ y Q) s₂ it) E s₁) E s)
    (hs : ∀ x, foldedSetIterable iter env x = pure x := by intro _; rfl) :
    wpAny (model prog w) A (exec (.Assign [.Name y py] (.ListComp elt (⟨target, iter, [], 0⟩ :: rest) scope pos) spos) env) Q E s := by
  subst hLe
  rw [exec_Assign_Name_used _ _ _ _ hsw]
  refine wpAny_bind (wpAny_standAt (wpAny_bind ?_))
  show wpAny _ A (do let _ ← comprehension (.ListComp elt (⟨target, iter, [], 0⟩ :: rest) scope pos) scope env _ (newList []) false (eval iter env) (some (assign (.Name y py) env))) _ _ s
  refine wpAny_bind (wpAny_mono (wpAny_comprehension_free (use := some (assign (.Name y py) env)) (Q := fun _ s' => Q .next s') rfl hs hclos hkind hnames
    (wpAny_mono h (fun xv s₁ h₁ => wpAny_mono h₁ (fun it s₂ h₂ => ?_) fun _ _ e => e) fun _ _ e => e)) (fun _ s' hq => wpAny_pure (wpAny_pure hq)) fun _ _ e => e)
  refine comp_block hcell hkind h₂ ?_
  intro D C h' tk m' ys news' F' N' o1 hn hC₀ hD₀ hCL hDL hCD offC fin
  show wpAny _ A (assign (.Name y py) env (.ref D)) _ _ _
  refine wpAny_assign_Name (wpAny_storeName_local hy F'.ns (fun h₂ hn₂ hs₂ => ?_) hp)
  have hL₀ : h₀.get? env.locals = none := Heap.get?_none_of_le F'.above
  have F₂ : Fr h₀ env.locals h₂ (fun z => if z = y then some (.ref D) else m z) := ⟨hn₂, fun b o e => hs₂.extBut b o (fun q => by rw [q, hL₀] at e; cases e) (F'.keep b o e), F'.above⟩
  refine ⟨m', hn.sameBut hs₂ hCL, fun h'' hs'' => fin D h'' _ (F₂.change hs'' hCL hC₀) (fun p hp => ?_) o1⟩
  have z : h₂.get? p.1 = some p.2 := hs₂.extBut _ _ (N' p hp).2.1 (N' p hp).1
  refine ⟨hs''.extBut _ _ ?_ z, (N' p hp).2⟩
  rcases List.mem_cons.mp hp with rfl | hp
  · exact Ne.symm hCD
  · exact offC p hp
end
end Mine

end
section
open PySem PySem.W PyProof.Rows PySem.Calls PySem.Spec
namespace Mine
open LCg
section
variable {prog : Program} {w : World} {A : Around} {s₂ : Shared} {h₀ : Heap} {L : Addr} {m : Str → Option Value} {env : Env}
noncomputable def End4 (h₀ : Heap) (L : Addr) (m : Str → Option Value) (s₁ : Shared) (I2 : Addr) (oI2 : Obj) (I : Addr) (oI : Obj) (C : Addr) (oC : Obj) (D : Addr) (oD : Obj) (rest : Value → Led → Prop) (y : Value) (s₂ : Shared) : Prop :=
  ∃ h' tk news', s₂ = { s₁ with heap := h', toks := tk } ∧ Fr h₀ L h' m ∧ News h₀ L h' ((I2, oI2) :: (I, oI) :: (C, oC) :: (D, oD) :: news') ∧ Off3 I C D news' ∧ Off1 I2 news' ∧ rest y news'
theorem off1_mem {D : Addr} : ∀ {l : Led}, Off1 D l → ∀ p ∈ l, p.1 ≠ D
  | [], _, _, h => nomatch h
  | _ :: _, x, p, h => by
    rcases List.mem_cons.mp h with rfl | h
    · exact x.1
    · exact off1_mem x.2 p h
theorem off1_of {D : Addr} : ∀ {l : Led}, (∀ p ∈ l, p.1 ≠ D) → Off1 D l
  | [], _ => trivial
  | _ :: _, h => ⟨h _ List.mem_cons_self, off1_of fun p hp => h p (List.mem_cons_of_mem _ hp)⟩
/-- a comprehension of two clauses, each over a range -/
theorem nest_run {elt i1 i2 : PySem.Expr} {x1 x2 : Str} {p1 p2 pos : Pos} {scope : Scope} {cl : List (Str × Addr)} {n : Nat} {I : Addr} {led : Led} {Fin : List Value → Led → Prop}
    (hh : A.handled = none) (hkind : scope.kind = .function) (hx1 : scope.names.lookup x1 = some .local) (hx2 : scope.names.lookup x2 = some .local) (h12 : x1 ≠ x2)
    (hf : ∀ e x, foldedSetIterable i2 e x = pure x) (JJ : Nat → Nat → List Value → Led → Prop) (step : ∀ i ys news, i < n → JJ i i ys news → JJ (i + 1) 0 ys news)
    (hsz : ∀ i k ys news, i < n → k < i → JJ i k ys news → ys.length ≤ sizeLine)
    (ev2 : ∀ i ys news I oI C oC D m₂ h tk t (E' : Value → Shared → Prop), i < n → JJ i 0 ys news → NsObj oC m₂ → m₂ x1 = some (.int (i : Nat) t) → Fr h₀ L h m → News h₀ L h ((I, oI) :: (C, oC) :: (D, lst ys) :: news) → Off3 I C D news → ((@Ne Nat I C) ∧ (@Ne Nat I D) ∧ (@Ne Nat C D)) →
      wpAny (model prog w) A (eval i2 (compEnvC scope cl C env)) (fun xv s₁ => wpAny (model prog w) A (pyIter xv) (fun it s' => ∃ h' tk' I2, it = .ref I2 ∧ s' = { s₂ with heap := h', toks := tk' } ∧ Fr h₀ L h' m ∧ News h₀ L h' ((I, oI) :: (C, oC) :: (D, lst ys) :: news) ∧
        IsRangeIter h' I2 0 (i : Nat) 1 ∧ L ≠ I2 ∧ h₀.get? I2 = none ∧ ∀ p ∈ ((I, oI) :: (C, oC) :: (D, lst ys) :: news), p.1 ≠ I2) E' s₁) E' { s₂ with heap := h, toks := tk })
    (ev : ∀ i k ys news I2 oI2 I oI C oC D m₂ h tk t u (E' : Value → Shared → Prop), i < n → k < i → JJ i k ys news → NsObj oC m₂ → m₂ x1 = some (.int (i : Nat) t) → m₂ x2 = some (.int (k : Nat) u) → Fr h₀ L h m → News h₀ L h ((I2, oI2) :: (I, oI) :: (C, oC) :: (D, lst ys) :: news) → Off3 I C D news → Off1 I2 news → ((@Ne Nat I C) ∧ (@Ne Nat I D) ∧ (@Ne Nat C D) ∧ (@Ne Nat I2 I) ∧ (@Ne Nat I2 C) ∧ (@Ne Nat I2 D)) →
      wpAny (model prog w) A (eval elt (compEnvC scope cl C env)) (End4 h₀ L m { s₂ with heap := h, toks := tk } I2 oI2 I oI C oC D (lst ys) (fun y news' => JJ i (k + 1) (ys ++ [y]) news')) E' { s₂ with heap := h, toks := tk })
    (fin : ∀ ys news, JJ n 0 ys news → Fin ys news)
    (F : Fr h₀ L s₂.heap m) (N : News h₀ L s₂.heap led) (hI : IsRangeIter s₂.heap I 0 (n : Nat) 1) (offI : ∀ p ∈ led, p.1 ≠ I) (hIL : L ≠ I) (hI₀ : h₀.get? I = none) (hJ : JJ 0 0 [] led) :
    CompRun prog w A h₀ L m env (.ListComp elt [⟨.Name x1 p1, i1, [], 0⟩, ⟨.Name x2 p2, i2, [], 0⟩] scope pos) scope cl Fin s₂ (.ref I) := by
  refine ⟨led, F, N, ?_⟩
  intro C D oC h tk hC F N offC offD ne keep far
  have hI' : IsRangeIter h I 0 (n : Nat) 1 := keep _ _ hI
  obtain ⟨hCI', hDI'⟩ := far _ _ hI
  suffices loop : codeAny (model prog w) A (.compLoop (.ListComp elt [⟨.Name x1 p1, i1, [], 0⟩, ⟨.Name x2 p2, i2, [], 0⟩] scope pos) 0 (.ref I) (.ref D) (compEnvC scope cl C env)) _ { s₂ with heap := h, toks := tk } from
    compStart_0 loop (wpAny_pyIter_rangeiter hI' loop)
  have hp : ((compEnvC scope cl C env).scope.kind == .class || ((compEnvC scope cl C env).scope.kind == .module && (compEnvC scope cl C env).locals != (compEnvC scope cl C env).globals)) = false := by simp [compEnvC, relabel, hkind]
  refine comp_walk (n := n) (x := x1) (C := C) (D := D) (I := I) (s₂ := s₂) (oC := oC) (m₁ := fun _ => none) (ys := []) (news := led) rfl rfl (by
      show (compTurn _ 0 (.ref I) (.ref D) (compEnvC scope cl C env)).onRaise _ = _
      rw [compTurn_0]) hh rfl (cenv := compEnvC scope cl C env) (lookup_relabel_local hx1) hp (fun i ys news _ => JJ i 0 ys news) ?_ ?_ hI' F hC N (Off3.of fun p hp => ⟨offI p hp, offC p hp, offD p hp⟩) hIL hI₀ hCI' hDI' ne hJ
  rotate_left
  · intro h tk oC m₂ ys news F hC N off hJ
    have offm := off.mem
    exact ⟨rfl, h, tk, oC, m₂, ys, news, rfl, F, hC, N, fun p hp => (offm p hp).2.1, off.one, fin _ _ hJ⟩
  clear F hC N hI' hI hJ offI offC offD keep far
  intro i ys news oI oC m₁ m₂ h tk t E' hi hJ hC hx1v _ F N off
  have offm := off.mem
  refine wpAny_bind (wpAny_mono (ev2 i ys news I oI C oC D m₂ h tk t E' hi hJ hC hx1v F N off ⟨hCI', hDI', ne⟩) (fun xv s' hs' => ?_) fun _ _ e => e)
  refine wpAny_bind (wpAny_standAt (wpAny_bind (wpAny_of_eq (hf _ _) (wpAny_bind (wpAny_holding (wpAny_mono hs' (fun it s'' h'' => ?_) fun _ _ e => e))))))
  obtain ⟨h', tk', I2, rfl, rfl, F', N', hI2, hLI2, hI20, off2⟩ := h''
  refine wpAny_bind (wpAny_runOwn ?_)
  show codeAny (model prog w) A _ _ _
  have d1 : I2 ≠ C := Ne.symm (off2 (C, oC) (.tail _ (.head _)))
  have d2 : I2 ≠ D := Ne.symm (off2 (D, lst ys) (.tail _ (.tail _ (.head _))))
  have d3 : I ≠ I2 := off2 (I, oI) (.head _)
  suffices loop : codeAny (model prog w) A (.compLoop (.ListComp elt [⟨.Name x1 p1, i1, [], 0⟩, ⟨.Name x2 p2, i2, [], 0⟩] scope pos) 1 (.ref I2) (.ref D) (compEnvC scope cl C env)) _ { s₂ with heap := h', toks := tk' } from
    compStart_1 loop (wpAny_pyIter_rangeiter hI2 loop)
  refine comp_walk (n := i) (x := x2) (C := C) (D := D) (I := I2) (s₂ := s₂) (oC := oC) (m₁ := m₂) (ys := ys) (news := (I, oI) :: news) rfl rfl (by
      show (compTurn _ 1 (.ref I2) (.ref D) (compEnvC scope cl C env)).onRaise _ = _
      rw [compTurn_1]) hh rfl (cenv := compEnvC scope cl C env) (lookup_relabel_local hx2) hp (fun k ys led m => ∃ news, led = (I, oI) :: news ∧ Off1 I news ∧ m x1 = some (.int (i : Nat) t) ∧ JJ i k ys news) ?_ ?_ hI2 F' hC (fun p hp => ?_) ⟨⟨d3, hCI', hDI'⟩, Off3.of fun p hp => ⟨off2 p (.tail _ (.tail _ (.tail _ hp))), (offm p hp).2.1, (offm p hp).2.2⟩⟩ hLI2 hI20 d1 d2 ne ⟨_, rfl, off1_of (fun p hp => (offm p hp).1), hx1v, hJ⟩
  rotate_left
  · rintro h tk oC m₂ ys _ F hC N off ⟨news, rfl, o1, hx1v, hJ⟩
    refine wpAny_pure ⟨rfl, h, tk, oC, m₂, ys, news, rfl, F, hC, fun p hp => ?_, Off3.of fun p hp => ?_, step _ _ _ hi hJ⟩
    · rcases List.mem_cons.mp hp with rfl | hp
      · exact N _ (.tail _ (.tail _ (.head _)))
      · rcases List.mem_cons.mp hp with rfl | hp
        · exact N _ (.head _)
        · rcases List.mem_cons.mp hp with rfl | hp
          · exact N _ (.tail _ (.head _))
          · exact N _ (.tail _ (.tail _ (.tail _ hp)))
    · obtain ⟨a1, a2, a3⟩ := off.2.mem p hp
      exact ⟨off1_mem o1 p hp, a2, a3⟩
  · rcases List.mem_cons.mp hp with rfl | hp
    · exact N' _ (.tail _ (.head _))
    · rcases List.mem_cons.mp hp with rfl | hp
      · exact N' _ (.tail _ (.tail _ (.head _)))
      · rcases List.mem_cons.mp hp with rfl | hp
        · exact N' _ (.head _)
        · exact N' _ (.tail _ (.tail _ (.tail _ hp)))
  clear F N F' N' hC hJ off offm off2 hs' hx1v hI2
  rintro k ys _ oI2 oC m₁ m₂ h tk u E' hk ⟨news, rfl, o1, hx1v, hJ⟩ hC hx2v hm F N off
  have hx1' : m₂ x1 = some (.int (i : Nat) t) := (hm x1 h12).trans hx1v
  have off2 := off.2.mem
  refine wpAny_bind (wpAny_bind (wpAny_mono (ev i k ys news I2 oI2 I oI C oC D m₂ h tk t u E' hi hk hJ hC hx1' hx2v F (fun p hp => ?_) (Off3.of fun p hp => ⟨off1_mem o1 p hp, (off2 p hp).2.1, (off2 p hp).2.2⟩) (off1_of fun p hp => (off2 p hp).1) ⟨hCI', hDI', ne, Ne.symm d3, d1, d2⟩) (fun y s' hs' => ?_) fun _ _ e => e))
  · rcases List.mem_cons.mp hp with rfl | hp
    · exact N _ (.head _)
    · rcases List.mem_cons.mp hp with rfl | hp
      · exact N _ (.tail _ (.tail _ (.tail _ (.head _))))
      · rcases List.mem_cons.mp hp with rfl | hp
        · exact N _ (.tail _ (.head _))
        · rcases List.mem_cons.mp hp with rfl | hp
          · exact N _ (.tail _ (.tail _ (.head _)))
          · exact N _ (.tail _ (.tail _ (.tail _ (.tail _ hp))))
  obtain ⟨h', tk', news', rfl, F', N', off', o2, hJ'⟩ := hs'
  have offm := off'.mem
  have zD := (N' (D, lst ys) (.tail _ (.tail _ (.tail _ (.head _))))).1
  have hDL := (N' (D, lst ys) (.tail _ (.tail _ (.tail _ (.head _))))).2.1
  have hD₀ := (N' (D, lst ys) (.tail _ (.tail _ (.tail _ (.head _))))).2.2
  refine wpAny_bind (append_at (hsz := by show ys.toArray.size ≤ sizeLine; rw [List.size_toArray]; exact hsz _ _ _ _ hi hk hJ) zD fun h₆ hs₆ hD₆ => ?_)
  have keepN : ∀ p ∈ ((I2, oI2) :: (C, oC) :: (I, oI) :: news'), p.1 ≠ D ∧ p ∈ ((I2, oI2) :: (I, oI) :: (C, oC) :: (D, lst ys) :: news') := fun p hp => by
    rcases List.mem_cons.mp hp with rfl | hp
    · exact ⟨d2, .head _⟩
    · rcases List.mem_cons.mp hp with rfl | hp
      · exact ⟨ne, .tail _ (.tail _ (.head _))⟩
      · rcases List.mem_cons.mp hp with rfl | hp
        · exact ⟨hDI', .tail _ (.head _)⟩
        · exact ⟨(offm p hp).2.2, .tail _ (.tail _ (.tail _ (.tail _ hp)))⟩
  refine wpAny_pure (wpAny_pure ⟨rfl, h₆, tk', oC, m₂, ys ++ [y], (I, oI) :: news', rfl, F'.change hs₆ hDL hD₀, hC, fun p hp => ?_, ⟨⟨d3, hCI', hDI'⟩, Off3.of fun p hp => ⟨off1_mem o2 p hp, (offm p hp).2.1, (offm p hp).2.2⟩⟩, news', rfl, off1_of (fun p hp => (offm p hp).1), hx1', hJ'⟩)
  have z : p ∈ ((I2, oI2) :: (C, oC) :: (I, oI) :: news') ∨ p = (D, lst (ys ++ [y])) := by
    rcases List.mem_cons.mp hp with rfl | hp
    · exact .inl (.head _)
    · rcases List.mem_cons.mp hp with rfl | hp
      · exact .inl (.tail _ (.head _))
      · rcases List.mem_cons.mp hp with rfl | hp
        · exact .inr rfl
        · exact .inl (.tail _ (.tail _ hp))
  rcases z with hp | rfl
  · obtain ⟨q1, q2⟩ := keepN p hp
    exact ⟨hs₆.extBut _ _ q1 (N' p q2).1, (N' p q2).2⟩
  · exact ⟨hD₆.trans (congrArg some (lst_snoc ys y)), hDL, hD₀⟩
end
end Mine

end
section
open PySem PySem.W PyProof.Rows PySem.Calls PySem.Spec
namespace Mine
/-- a list of pairs of places, each pair's earlier place below its later one -/
noncomputable def PairAt (T : Led) (y : Value) : Prop := ∃ (a : Addr) (i j : Nat) (t u : Tok), y = .ref a ∧ (a, ({ cls := .type "tuple", data := .seq #[.int (i : Nat) t, .int (j : Nat) u] 0 } : Obj)) ∈ T ∧ i < j ∧ j < 6
noncomputable def PairsAt (T : Led) (ps : List Value) : Prop := ∀ y ∈ ps, PairAt T y
noncomputable def tri : Nat → Nat
  | 0 => 0
  | i + 1 => tri i + i
end Mine

end
section
open PySem PySem.W PyProof.Rows PySem.Calls PySem.Spec
namespace Mine
/-- one row of _law_drawn's answer -/
noncomputable def RowAt (T : Led) (y : Value) (r : Int × Bool × Int) : Prop := ∃ (a : Addr) (t u : Tok), y = .ref a ∧ (a, ({ cls := .type "tuple", data := .seq #[.int r.1 t, .bool r.2.1, .int r.2.2 u] } : Obj)) ∈ T
inductive RowsAre (T : Led) : List Value → List (Int × Bool × Int) → Prop
  | nil : RowsAre T [] []
  | cons {y r ys rs} : RowAt T y r → RowsAre T ys rs → RowsAre T (y :: ys) (r :: rs)
theorem RowAt.mono {T T' : Led} (h : ∀ p ∈ T, p ∈ T') {y r} : RowAt T y r → RowAt T' y r
  | ⟨a, t, u, e, hm⟩ => ⟨a, t, u, e, h _ hm⟩
theorem RowsAre.mono {T T' : Led} (h : ∀ p ∈ T, p ∈ T') : ∀ {ys rs}, RowsAre T ys rs → RowsAre T' ys rs
  | _, _, .nil => .nil
  | _, _, .cons a b => .cons (a.mono h) (b.mono h)
theorem RowsAre.snoc {T : Led} {y r} (hy : RowAt T y r) : ∀ {ys rs}, RowsAre T ys rs → RowsAre T (ys ++ [y]) (rs ++ [r])
  | _, _, .nil => .cons hy .nil
  | _, _, .cons a b => .cons a (b.snoc hy)
theorem RowsAre.length {T : Led} : ∀ {ys rs}, RowsAre T ys rs → ys.length = rs.length
  | _, _, .nil => rfl
  | _, _, .cons _ b => congrArg (· + 1) b.length
theorem RowsAre.at {T : Led} : ∀ {ys rs}, RowsAre T ys rs → ∀ (k : Nat) y, ys[k]? = some y → ∃ r, rs[k]? = some r ∧ RowAt T y r
  | _, _, .nil, _, _, e => by cases e
  | _, _, .cons a b, 0, _, e => by cases e; exact ⟨_, rfl, a⟩
  | _, _, .cons a b, k + 1, _, e => b.at k _ e
/-- what _law_drawn answers: number, whether held out, share -/
noncomputable def drRow (zs : List Int) (i j k : Nat) : Int × Bool × Int := (Int.fmod (zs.getD k 0) 81 - 40, decide (k = i ∨ k = j), zs.getD k 0 / 81)
noncomputable def drRows (zs : List Int) (i j : Nat) : List (Int × Bool × Int) := (List.range 6).map (drRow zs i j)
theorem drRows_take (zs : List Int) (i j : Nat) {k : Nat} (hk : k < 6) : (drRows zs i j).take (k + 1) = (drRows zs i j).take k ++ [drRow zs i j k] := by
  rw [List.take_add_one]
  congr 1
  unfold drRows
  rw [List.getElem?_map, List.getElem?_range hk]
  rfl
section
open LCg
variable {prog : Program} {w : World} {A : Around} {E : Value → Shared → Prop} {s : Shared} {h₀ : Heap} {L : Addr} {m : Str → Option Value} {env : Env}
/-- CompSrc, that the walk is to leave -/
noncomputable def CompSrcH (prog : Program) (w : World) (A : Around) (h₀ : Heap) (L : Addr) (m : Str → Option Value) (env : Env) (elt : PySem.Expr) (x : Str) (scope : Scope) (cl : List (Str × Addr)) (Fin : Shared → List Value → Led → Prop) (xv : Value) (s₁ : Shared) : Prop := CompSrc prog w A h₀ L m env elt x scope cl Fin xv s₁
theorem CompSrcH.mk {elt : PySem.Expr} {x : Str} {scope : Scope} {cl : List (Str × Addr)} {Fin : Shared → List Value → Led → Prop} {xv : Value} {s₁ : Shared} (h : CompSrc prog w A h₀ L m env elt x scope cl Fin xv s₁) : CompSrcH prog w A h₀ L m env elt x scope cl Fin xv s₁ := h
theorem ListComp_H {elt iter : PySem.Expr} {x : Str} {px : Pos} {scope : Scope} {cl : List (Str × Addr)} {pos : Pos} {Q : Value → Shared → Prop} (F₀ : Fr h₀ L s.heap m := by k_asm)
    (hclos : closureFor scope env = pure cl := by with_unfolding_all rfl) (hcell : ∀ y ∈ scope.names, y.2 ≠ .cell := by decide) (hkind : scope.kind = .function := by rfl)
    (hnames : ∀ y ∈ scope.names, y.2 = .local → scope.names.lookup y.1 = some .local := by decide) (hx : scope.names.lookup x = some .local := by rfl)
    (h : wpAny (model prog w) A (eval iter env) (CompSrcH prog w A h₀ L m env elt x scope cl (fun s₂ => FinE h₀ L m s₂ Q)) E s)
    (hs : ∀ x, foldedSetIterable iter env x = pure x := by intro _; rfl) :
    wpAny (model prog w) A (eval (.ListComp elt [⟨.Name x px, iter, [], 0⟩] scope pos) env) Q E s := ListComp_U F₀ hclos hcell hkind hnames hx h hs
end
end Mine

end
section
open PySem PySem.W PyProof.Rows PySem.Calls PySem.Spec
namespace Mine
noncomputable def rsScope : { x : Scope // x = dScope (st 27) } := ⟨⟨_, _, _, _, _⟩, rfl⟩
noncomputable abbrev rsEnv (L : Addr) : Env := envOfC (Str.ofString "_law_rest") rsScope.1 L 240 (.ref 239)
noncomputable def rs0 : { x : Stmt // x = nth (dBody (st 27)) 0 } := ⟨.For (.Name _ _) _ [_] [] _, rfl⟩
noncomputable def rs1 : { x : Stmt // x = nth (dBody (st 27)) 1 } := ⟨.For (.Name _ _) _ [_, _, _, _, _, _, _, _, _] [] _, rfl⟩
noncomputable def rs2 : { x : Stmt // x = nth (dBody (st 27)) 2 } := ⟨.Return _ _, rfl⟩
noncomputable def rsFor : Stmt → List Stmt
  | .For _ _ b _ _ => b
  | _ => []
noncomputable def rb0 : { x : Stmt // x = nth (rsFor rs1.1) 0 } := ⟨.Assign [.Name _ _] _ _, rfl⟩
noncomputable def rb1 : { x : Stmt // x = nth (rsFor rs1.1) 1 } := ⟨.Assign [.Tuple _ _ _] _ _, rfl⟩
noncomputable def rb2 : { x : Stmt // x = nth (rsFor rs1.1) 2 } := ⟨.Assign [.Tuple _ _ _] _ _, rfl⟩
noncomputable def rb3 : { x : Stmt // x = nth (rsFor rs1.1) 3 } := ⟨.For (.Name _ _) _ [_] [] _, rfl⟩
noncomputable def rb4 : { x : Stmt // x = nth (rsFor rs1.1) 4 } := ⟨.If _ [_] [] _, rfl⟩
noncomputable def rb5 : { x : Stmt // x = nth (rsFor rs1.1) 5 } := ⟨.Assign [.Name _ _] _ _, rfl⟩
noncomputable def rb6 : { x : Stmt // x = nth (rsFor rs1.1) 6 } := ⟨.Assign [.Name _ _] _ _, rfl⟩
noncomputable def rb7 : { x : Stmt // x = nth (rsFor rs1.1) 7 } := ⟨.If _ [_] [_] _, rfl⟩
noncomputable def rb8 : { x : Stmt // x = nth (rsFor rs1.1) 8 } := ⟨.For (.Name _ _) _ [_] [] _, rfl⟩
/-- the ledger of _law_rest's frame: the lexer's part, its two cells, the rest -/
noncomputable abbrev rsLed (w : World) (X : Lx) (pos line : Int) (tp tl : Tok) (push : Array Value) (np : Nat) (L : Nat) (oc ol : Obj) (rest : Led) : Led := lexLed w X pos line tp tl push np ((L + 1 + 1, oc) :: (L + 1, ol) :: rest)
theorem rs_mem {w : World} {X : Lx} {pos line : Int} {tp tl : Tok} {push : Array Value} {np : Nat} {L : Nat} {oc ol : Obj} {rest : Led} {p : Addr × Obj} (h : p ∈ rest) : p ∈ rsLed w X pos line tp tl push np L oc ol rest := lex_sub (.tail _ (.tail _ h))
theorem Apart.off {X : Lx} {rest : Led} {q : Addr × Obj} {w : World} {pos line : Int} {tp tl : Tok} {push : Array Value} {np : Nat} {r' : Led} (h : Apart X rest) (hq : ∀ p ∈ lexLed w X pos line tp tl push np r', p.1 ≠ q.1) : Apart X (q :: rest) :=
  h.add (Ne.symm (hq (X.la, _) (.tail _ (.tail _ (.tail _ (.tail _ (.tail _ (.tail _ (.tail _ (.head _)))))))))) (Ne.symm (hq (X.dx, _) (.tail _ (.tail _ (.head _))))) (Ne.symm (hq (X.lp, _) (.head _)))
theorem rs_apart {X : Lx} (hX : X.Ok) {rest : Led} (hr : Apart X rest) {L : Nat} (hxL : @LT.lt Nat _ X.lp L) {oc ol : Obj} : Apart X ((L + 1 + 1, oc) :: (L + 1, ol) :: rest) :=
  (hr.up hX (q := (L + 1, ol)) (by show X.lp < L + 1; omega)).up hX (q := (L + 1 + 1, oc)) (by show X.lp < L + 1 + 1; omega)
section
open LCg
variable {prog : Program} {w : World} {A : Around} {E : Value → Shared → Prop} {s : Shared} {h₀ : Heap} {L : Addr} {m : Str → Option Value} {env : Env}
theorem Assign_ListComp_H {elt iter : PySem.Expr} {x y : Str} {px py : Pos} {scope : Scope} {cl : List (Str × Addr)} {pos spos : Pos} {Q : Flow → Shared → Prop} (F₀ : Fr h₀ L s.heap m := by k_asm) (hLe : env.locals = L := by rfl)
    (hsw : swapsWith (.ListComp elt [⟨.Name x px, iter, [], 0⟩] scope pos) (some (.Name y py)) spos.line env = pure true := by with_unfolding_all rfl)
    (hclos : closureFor scope env = pure cl := by with_unfolding_all rfl) (hcell : ∀ z ∈ scope.names, z.2 ≠ .cell := by decide) (hkind : scope.kind = .function := by rfl)
    (hnames : ∀ z ∈ scope.names, z.2 = .local → scope.names.lookup z.1 = some .local := by decide) (hx : scope.names.lookup x = some .local := by rfl)
    (hy : env.kindOf y = some .local := by rfl) (hp : (env.scope.kind == .class || (env.scope.kind == .module && env.locals != env.globals)) = false := by rfl)
    (h : wpAny (model prog w) A (eval iter env) (CompSrcH prog w A h₀ L m env elt x scope cl (fun s₂ => FinA h₀ L m s₂ y Q)) E s)
    (hs : ∀ x, foldedSetIterable iter env x = pure x := by intro _; rfl) :
    wpAny (model prog w) A (exec (.Assign [.Name y py] (.ListComp elt [⟨.Name x px, iter, [], 0⟩] scope pos) spos) env) Q E s := Assign_ListComp_U F₀ hLe hsw hclos hcell hkind hnames hx hy hp h hs
end
end Mine

end
section
open PySem PySem.W
namespace Mine
/-- a number's size, by powers of two -/
noncomputable def Bd (k : Nat) (x : Int) : Prop := x.natAbs ≤ 2 ^ k
theorem Bd.mul {i j : Nat} {x y : Int} (h : Bd i x := by ktr_rel) (g : Bd j y := by ktr_rel) : Bd (i + j) (x * y) := by
  unfold Bd at *
  rw [Int.natAbs_mul, Nat.pow_add]
  exact Nat.mul_le_mul h g
theorem Bd.up {i j : Nat} {x : Int} (h : Bd i x) (g : i ≤ j) : Bd j x := Nat.le_trans h (Nat.pow_le_pow_right (by decide) g)
theorem Bd.add {i j : Nat} {x y : Int} (h : Bd i x := by ktr_rel) (g : Bd j y := by ktr_rel) : Bd (max i j + 1) (x + y) := by
  have h' := h.up (Nat.le_max_left i j)
  have g' := g.up (Nat.le_max_right i j)
  unfold Bd at *
  rw [Nat.pow_succ, Nat.mul_two]
  exact Nat.le_trans (Int.natAbs_add_le _ _) (Nat.add_le_add h' g')
theorem Bd.sub {i j : Nat} {x y : Int} (h : Bd i x := by ktr_rel) (g : Bd j y := by ktr_rel) : Bd (max i j + 1) (x - y) := by
  have h' := h.up (Nat.le_max_left i j)
  have g' := g.up (Nat.le_max_right i j)
  unfold Bd at *
  rw [Nat.pow_succ, Nat.mul_two]
  exact Nat.le_trans (Int.natAbs_sub_le _ _) (Nat.add_le_add h' g')
theorem Bd.neg {i : Nat} {x : Int} (h : Bd i x := by ktr_rel) : Bd i (-x) := by
  unfold Bd at *
  rw [Int.natAbs_neg]
  exact h
theorem Bd.ok {i : Nat} {x y : Int} (h : Bd i x := by ktr_rel) (g : i ≤ 62 := by decide) : IntMulOk x y := by
  have h' := h.up g
  unfold Bd at h'
  exact IntMulOk.of_left (PySem.intBits_le_64 (by omega) (by omega))
theorem Bd.okr {i : Nat} {x y : Int} (h : Bd i y := by ktr_rel) (g : i ≤ 62 := by decide) : IntMulOk x y := by
  have h' := h.up g
  unfold Bd at h'
  exact IntMulOk.of_right (PySem.intBits_le_64 (by omega) (by omega))
theorem Bd.lt {i : Nat} {x : Int} (h : Bd i x) (g : i ≤ 59) : x.natAbs < 2 ^ 60 := by
  have h' := h.up g
  unfold Bd at h'
  omega
theorem bdc {x : Int} (h : Bd 7 x := by decide) : Bd 7 x := h
theorem bd6 {x : Int} (h0 : 0 ≤ x) (h6 : x < 6) : Bd 3 x := by
  unfold Bd
  omega
theorem bd6d {p q : Int} (p0 : 0 ≤ p) (p6 : p < 6) (q0 : 0 ≤ q) (q6 : q < 6) : Bd 3 (p - q) := by
  unfold Bd
  omega
/-- four places in order -/
theorem ord4 {i j k l : Int} (h0 : 0 ≤ i) (h1 : i < j) (h2 : j < k) (h3 : k < l) (h4 : l < 6) : (0 ≤ j ∧ 0 ≤ k ∧ 0 ≤ l) ∧ i < 6 ∧ j < 6 ∧ k < 6 :=
  have j0 := Int.le_trans h0 (Int.le_of_lt h1)
  have k0 := Int.le_trans j0 (Int.le_of_lt h2)
  have k6 := Int.lt_trans h3 h4
  have j6 := Int.lt_trans h2 k6
  ⟨⟨j0, k0, Int.le_trans k0 (Int.le_of_lt h3)⟩, Int.lt_trans h1 j6, j6, k6⟩
theorem lt4 {n : Nat} (h : n < 4) : n = 0 ∨ n = 1 ∨ n = 2 ∨ n = 3 := (by decide : ∀ n : Fin 4, n.1 = 0 ∨ n.1 = 1 ∨ n.1 = 2 ∨ n.1 = 3) ⟨n, h⟩
end Mine

end
section
open PySem PySem.W PyProof.Rows PySem.Calls
set_option maxHeartbeats 4000000
namespace Mine
variable {w : World} {p : Program} {loose : List Str} {mean : ExcName → Option Value} {mg mb : Str → Option Value} {news : List (Addr × Obj)}
theorem c_rc (X : Lx) (hX : X.Ok) (pos line : Int) (tp tl : Tok) (push : Array Value) (np : Nat) (rest : Led) (hr : Apart X rest) (h0 : 0 ≤ pos) (h1 : pos ≤ X.page.cps.size) (hs : X.page.cps.size ≤ 10000) (h2 : 0 ≤ line) (h3 : line < 20000) (c : Nat) (hc : Txt.slice X.page (some pos) (some (pos + 1)) = ⟨#[c]⟩) :
    Claim w p loose mean mg mb 3 120 [.ref X.x] (lexLed w X pos line tp tl push np rest) (IsRead w X ⟨#[c]⟩ (pos + 1) (bump ⟨#[c]⟩ line) push np rest) := by
  intro dp un gd cn cs a ccd cl outer A₀ base h₀ L m s R B F XX N T hk hd hu hret
  have hcode : CodeHd h₀ 196 192 := codeHd_of_K XX (by kernel_rfl)
  obtain ⟨cp, ca, la, c', fr, fs, ds, dx, x, lp, page, tpage, ocp, oca, oc, ocv, oct, qual, doc, pm, ctv, fdl, tread, k1, k2, k3, k4, tws⟩ := X
  obtain ⟨x1, x2, x3, x4, o1, o2, o3, o4, o5, o6, o7, o8, o9⟩ := hX
  obtain ⟨r1, r2, r3⟩ := hr
  dsimp only [lexLed, roA, roB, roS] at *
  k_dflt cell_enter
  have hcode2 : CodeHd _ 196 192 := codeHd_of_K (by assumption) (by kernel_rfl)
  show wpAny _ _ (execs (_ :: _) _) _ _ _
  k_steps
  rename Fr _ _ _ _ => F9
  simp only [List.getD_cons_zero, Int.toNat_zero, hc] at F9 ⊢
  k_steps
  all_goals (refine hret _ _ _ _ ?_ (by k_asm) (by k_asm))
  all_goals (first | (exact ⟨⟨_, rfl⟩, _, _, by rw [bump, if_pos (by assumption)]; rfl⟩) | (exact ⟨⟨_, rfl⟩, _, _, by rw [bump, if_neg (by rw [Bool.not_eq_true]; assumption)]; rfl⟩))

end Mine
end
theorem Mine.look1 : True := by first | (walk1; fail) | trivial
section
open PySem PySem.W PyProof.Rows PySem.Calls
set_option maxHeartbeats 4000000
namespace Mine
variable {w : World} {p : Program} {loose : List Str} {mean : ExcName → Option Value} {mg mb : Str → Option Value} {news : List (Addr × Obj)}
theorem c_rc0 (X : Lx) (hX : X.Ok) (pos line : Int) (tp tl : Tok) (push : Array Value) (np : Nat) (rest : Led) (hr : Apart X rest) (h0 : 0 ≤ pos) (h1 : pos ≤ X.page.cps.size) (hs : X.page.cps.size ≤ 10000) (h2 : 0 ≤ line) (h3 : line < 20000) (hc : Txt.slice X.page (some pos) (some (pos + 1)) = ⟨#[]⟩) :
    Claim w p loose mean mg mb 3 120 [.ref X.x] (lexLed w X pos line tp tl push np rest) (IsRead w X ⟨#[]⟩ pos line push np rest) := by
  intro dp un gd cn cs a ccd cl outer A₀ base h₀ L m s R B F XX N T hk hd hu hret
  have hcode : CodeHd h₀ 196 192 := codeHd_of_K XX (by kernel_rfl)
  obtain ⟨cp, ca, la, c', fr, fs, ds, dx, x, lp, page, tpage, ocp, oca, oc, ocv, oct, qual, doc, pm, ctv, fdl, tread, k1, k2, k3, k4, tws⟩ := X
  obtain ⟨x1, x2, x3, x4, o1, o2, o3, o4, o5, o6, o7, o8, o9⟩ := hX
  obtain ⟨r1, r2, r3⟩ := hr
  dsimp only [lexLed, roA, roB, roS] at *
  k_dflt cell_enter
  have hcode2 : CodeHd _ 196 192 := codeHd_of_K (by assumption) (by kernel_rfl)
  show wpAny _ _ (execs (_ :: _) _) _ _ _
  k_steps
  rename Fr _ _ _ _ => F9
  simp only [List.getD_cons_zero, Int.toNat_zero, hc] at F9 ⊢
  k_steps
  refine P.len_str (by decide) ?_
  k_steps
  rename News _ _ _ _ => N9
  rw [show pos + ((Str.length ⟨#[]⟩ : Nat) : Int) = pos from Int.add_zero pos] at N9
  exact hret _ _ _ _ ⟨⟨_, rfl⟩, _, _, rfl⟩ (by k_asm) N9

end Mine
end
theorem Mine.look2 : True := by first | (walk1; fail) | trivial
section
open PySem PySem.W PyProof.Rows PySem.Calls
set_option maxHeartbeats 4000000
namespace Mine
variable {w : World} {p : Program} {loose : List Str} {mean : ExcName → Option Value} {mg mb : Str → Option Value} {news : List (Addr × Obj)}
theorem Lx.pos_of {X : Lx} {pre rem : List Nat} (h : pre ++ rem = X.cs) : X.posOf rem = pre.length ∧ X.lineOf rem = 1 + (pre.count 10 : Nat) := by
  have hl : X.cs.length - rem.length = pre.length := by rw [← h]; simp
  unfold Lx.posOf Lx.lineOf
  rw [hl, ← h, List.take_left]
  exact ⟨rfl, rfl⟩
theorem c_rd (X : Lx) (hX : X.Ok) (rem : List Nat) (hs : rem <:+ X.cs) (hl : X.cs.length ≤ 10000) (tp tl : Tok) (push : Array Value) (np : Nat) (rest : Led) (hr : Apart X rest) :
    Claim w p loose mean mg mb 3 120 [.ref X.x] (lexLed w X (X.posOf rem) (X.lineOf rem) tp tl push np rest) (IsRead w X (chS rem) (X.posOf rem.tail) (X.lineOf rem.tail) push np rest) := by
  obtain ⟨pre, h⟩ := hs
  obtain ⟨e1, e2⟩ := Lx.pos_of h
  have hlen : X.cs.length = pre.length + rem.length := by rw [← h]; simp
  have hsz : X.page.cps.size = X.cs.length := by simp [Lx.cs]
  have hcnt : pre.count 10 ≤ pre.length := List.count_le_length
  rw [e1, e2]
  cases rem with
  | nil =>
    rw [List.tail_nil, e1, e2]
    exact c_rc0 X hX _ _ tp tl push np rest hr (by omega) (by omega) (by omega) (by omega) (by omega) (slice_end (by show _ = (X.cs.length : Int); simp at hlen; omega))
  | cons c r =>
    obtain ⟨f1, f2⟩ := Lx.pos_of (X := X) (pre := pre ++ [c]) (rem := r) (by rw [← h]; simp)
    rw [List.tail_cons, f1, f2]
    simp only [List.length_cons] at hlen
    have C := c_rc (p := p) (loose := loose) (mean := mean) (mg := mg) (mb := mb) (w := w) X hX (pre.length : Int) (1 + (pre.count 10 : Nat)) tp tl push np rest hr (by omega) (by omega) (by omega) (by omega) (by omega) c (slice_at (r := r) (by show X.cs = _; rw [← h]))
    have hb : bump ⟨#[c]⟩ (1 + (pre.count 10 : Nat)) = 1 + ((pre ++ [c]).count 10 : Nat) := by
      unfold bump
      rw [show ((⟨#[c]⟩ : Str) == Str.ofString "\n") = (c == 10) from chS_nl c []]
      rw [List.count_append, List.count_singleton]
      cases hc : c == 10 <;> simp <;> omega
    rw [hb] at C
    rw [show ((pre ++ [c]).length : Int) = (pre.length : Int) + 1 by simp]
    exact C

end Mine
end
theorem Mine.look3 : True := by first | (walk1; fail) | trivial
section
open PySem PySem.W PyProof.Rows PySem.Calls
set_option maxHeartbeats 4000000
namespace Mine
variable {w : World} {p : Program} {loose : List Str} {mean : ExcName → Option Value} {mg mb : Str → Option Value} {news : List (Addr × Obj)}
noncomputable abbrev itOf (mo : Nat) (ts : Tok) : Obj := ciObj (.ref mo) (.str ⟨#[]⟩ ts) (.bool false)
noncomputable abbrev itDone : Obj := ciObj .none .none (.bool true)
noncomputable abbrev tokLed (w : World) (X : Lx) (rem : List Nat) (tp tl : Tok) (push : Array Value) (np : Nat) (it mo : Nat) (io : Obj) (rest : Led) : Led :=
  lexLed w X (X.posOf rem) (X.lineOf rem) tp tl push np ((it, io) :: (mo, methodObj (.ref 120) (.ref X.x)) :: rest)
theorem tok_it {w : World} {X : Lx} {pos line : Int} {tp tl : Tok} {push : Array Value} {np : Nat} {q : Addr × Obj} {rest : Led} : q ∈ lexLed w X pos line tp tl push np (q :: rest) := lex_sub (.head _)
theorem tok_mo {w : World} {X : Lx} {pos line : Int} {tp tl : Tok} {push : Array Value} {np : Nat} {q r : Addr × Obj} {rest : Led} : q ∈ lexLed w X pos line tp tl push np (r :: q :: rest) := lex_sub (.tail _ (.head _))
theorem next_rd {X : Lx} (hX : X.Ok) {rem : List Nat} (hs : rem <:+ X.cs) (hl : X.cs.length ≤ 10000) {tp tl : Tok} {push : Array Value} {np : Nat} {rest : Led} (hr : Apart X rest)
    {it mo : Nat} {ts : Tok} (hit : X.lp < it) (hmo : X.lp < mo) (him : it ≠ mo) (hri : ∀ q ∈ rest, q.1 ≠ it)
    {dp un : Nat} {gd : Option (List Code)} {cn : Str} {cs : Scope} {a : Addr} {ccd : Value} {cl : List (Str × Addr)} {outer : List Env} {A₀ : Around} {base h₀ : Heap} {L : Addr} {m : Str → Option Value} {s : Shared}
    (B : Below A₀ base outer h₀) (F : Fr h₀ L s.heap m) (XX : (K w.params).In h₀) (N : News h₀ L s.heap (tokLed w X rem tp tl push np it mo (itOf mo ts) rest)) (T : Top p loose mean mg mb h₀) (hk : cs.kind = .function)
    (hd : dp + 3 < recursionLimit) (hu : un + 1 + 10 * 3 < cLine) {Q : Option Value → Shared → Prop} {E : Value → Shared → Prop}
    (h1 : ∀ c r, rem = c :: r → ∀ h' tk' t tp' tl', Fr h₀ L h' m → News h₀ L h' (tokLed w X r tp' tl' push np it mo (itOf mo ts) rest) → Q (some (.str ⟨#[c]⟩ t)) { s with heap := h', toks := tk' })
    (h2 : rem = [] → ∀ h' tk' tp' tl', Fr h₀ L h' m → News h₀ L h' (tokLed w X [] tp' tl' push np it mo itDone rest) → Q none { s with heap := h', toks := tk' }) :
    wpAny (model Pw w) (ktrTop dp un gd cn cs L a ccd cl outer) (pyNext (.ref it)) Q E s := by
  have hX' := hX
  obtain ⟨x1, x2, x3, x4, o1, o2, o3, o4, o5, o6, o7, o8, o9⟩ := hX'
  have hr' : Apart X ((it, itOf mo ts) :: (mo, methodObj (.ref 120) (.ref X.x)) :: rest) := Apart.up hX (q := (it, _)) (Apart.up hX (q := (mo, _)) hr hmo) hit
  have e0 : s.heap.get? 120 = some (o120 w.params) := F.keep _ _ (XX 120 (o120 w.params) (by kernel_rfl))
  refine next_ci (f := 120) (self := .ref X.x) (fd := _) (of := o120 w.params) rfl ((N (it, itOf mo ts) tok_it).1) ((N (mo, methodObj (.ref 120) (.ref X.x)) tok_mo).1) e0 rfl ?_
  refine Claim.code (A₀ := A₀) (c_rd X hX rem hs hl tp tl push np _ hr') B F XX N T hk hd hu ?_
  rintro v n' h' tk' ⟨⟨t, rfl⟩, tp', tl', rfl⟩ F' N'
  refine ⟨_, _, rfl, (N' (it, itOf mo ts) tok_it).1, (N' (mo, methodObj (.ref 120) (.ref X.x)) tok_mo).1, F'.keep _ _ (XX 120 (o120 w.params) (by kernel_rfl)), ?_, ?_⟩
  · intro hc
    cases rem with
    | nil => exact absurd rfl hc
    | cons c r => exact h1 c r rfl _ _ _ _ _ F' N'
  · intro hc h'' kp hg
    cases rem with
    | cons c r => exact absurd hc (by simp [chS])
    | nil =>
      have D := N' (it, itOf mo ts) tok_it
      have hL : it ≠ L := D.2.1
      obtain ⟨oL, es, ep, hL1, hL2⟩ := F'.ns
      refine h2 rfl _ _ tp' tl' ⟨⟨oL, es, ep, kp _ _ (Ne.symm hL) hL1, hL2⟩, fun b x q => kp b x ?_ (F'.keep b x q), F'.above⟩ ?_
      · rintro rfl; rw [D.2.2] at q; cases q
      · have lex0 : ∀ q ∈ lexLed w X (X.posOf []) (X.lineOf []) tp' tl' push np [], q.1 ≠ it := by
          intro q hq
          rcases List.mem_cons.mp hq with rfl | hq
          · exact Nat.ne_of_lt hit
          have hlt : ∀ {x : Nat}, x < X.lp → x ≠ it := fun h => Nat.ne_of_lt (Nat.lt_trans h hit)
          obtain ⟨u1, u2, u3, u4, u5, u6, u7, u8, u9⟩ := hX.under
          iterate 8 (rcases List.mem_cons.mp hq with rfl | hq; exact hlt (by assumption))
          rcases List.mem_cons.mp hq with rfl | hq
          · exact hlt u1
          · cases hq
        have low : ∀ q ∈ lexLed w X (X.posOf []) (X.lineOf []) tp' tl' push np ((mo, methodObj (.ref 120) (.ref X.x)) :: rest), q.1 ≠ it := by
          intro q hq
          rcases List.mem_cons.mp (lex_in hq) with rfl | hq
          · exact Ne.symm him
          rcases List.mem_append.mp (show q ∈ lexLed w X (X.posOf []) (X.lineOf []) tp' tl' push np [] ++ rest from hq) with hq | hq
          · exact lex0 q hq
          · exact hri q hq
        intro q hq
        rcases List.mem_cons.mp (lex_in hq) with rfl | hq2
        · exact ⟨hg, D.2⟩
        · have hq3 := N' q (lex_out (.tail _ hq2))
          exact ⟨kp _ _ (low q hq2) hq3.1, hq3.2⟩

end Mine
end
theorem Mine.look4 : True := by first | (walk1; fail) | trivial
section
open PySem PySem.W PyProof.Rows PySem.Calls
set_option maxHeartbeats 4000000
namespace Mine
variable {w : World} {p : Program} {loose : List Str} {mean : ExcName → Option Value} {mg mb : Str → Option Value} {news : List (Addr × Obj)}
theorem c_imul {x y : Int} {tx ty : Tok} (hm : IntMulOk x y := by first | exact Bd.ok | mul_fits) : Claim w p loose mean mg mb 1 183 [.int x tx, .int y ty] news (IsI (x * y) news) := by
  intro dp un gd cn cs a ccd cl outer A₀ base h₀ L m s R B F XX N T hk hd hu hret
  k_dflt cell_enter
  show wpAny _ _ (execs (_ :: _) _) _ _ _
  k_steps
  exact hret _ _ _ _ ⟨⟨_, rfl⟩, rfl⟩ (by k_asm) (by k_asm)
theorem c_isub {x y : Int} {tx ty : Tok} : Claim w p loose mean mg mb 1 190 [.int x tx, .int y ty] news (IsI (x - y) news) := by
  intro dp un gd cn cs a ccd cl outer A₀ base h₀ L m s R B F XX N T hk hd hu hret
  k_dflt cell_enter
  show wpAny _ _ (execs (_ :: _) _) _ _ _
  k_steps
  exact hret _ _ _ _ ⟨⟨_, rfl⟩, rfl⟩ (by k_asm) (by k_asm)
theorem c_iadd {x y : Int} {tx ty : Tok} : Claim w p loose mean mg mb 1 176 [.int x tx, .int y ty] news (IsI (x + y) news) := by
  intro dp un gd cn cs a ccd cl outer A₀ base h₀ L m s R B F XX N T hk hd hu hret
  k_dflt cell_enter
  show wpAny _ _ (execs (_ :: _) _) _ _ _
  k_steps
  exact hret _ _ _ _ ⟨⟨_, rfl⟩, rfl⟩ (by k_asm) (by k_asm)
theorem c_neg {x : Int} {tx : Tok} : Claim w p loose mean mg mb 1 155 [.int x tx] news (IsI (-x) news) := by
  intro dp un gd cn cs a ccd cl outer A₀ base h₀ L m s R B F XX N T hk hd hu hret
  k_dflt cell_enter
  show wpAny _ _ (execs (_ :: _) _) _ _ _
  k_steps
  exact hret _ _ _ _ ⟨⟨_, rfl⟩, rfl⟩ (by k_asm) (by k_asm)

end Mine
end
theorem Mine.look5 : True := by first | (walk1; fail) | trivial
section
open PySem PySem.W
namespace Mine
noncomputable abbrev apB : Array UInt8 := #[65, 66, 67, 68, 69, 70, 71, 72, 73, 74, 75, 76, 77, 78, 79, 80]
theorem ap_whole {j : Nat} (h : j < 16) : KBy.whole apB (some (j : Int)) (some ((j : Int) + 1)) = false :=
  (by decide +kernel : ∀ j : Fin 16, KBy.whole apB (some ((j : Nat) : Int)) (some (((j : Nat) : Int) + 1)) = false) ⟨j, h⟩
theorem ap_picked {j : Nat} (h : j < 16) : KBy.picked apB (some (j : Int)) (some ((j : Int) + 1)) = #[UInt8.ofNat (65 + j)] :=
  (by decide +kernel : ∀ j : Fin 16, KBy.picked apB (some ((j : Nat) : Int)) (some (((j : Nat) : Int) + 1)) = #[UInt8.ofNat (65 + j)]) ⟨j, h⟩
end Mine

end
section
open PySem PySem.W PyProof.Rows PySem.Calls
set_option maxHeartbeats 4000000
namespace Mine
variable {w : World} {p : Program} {loose : List Str} {mean : ExcName → Option Value} {mg mb : Str → Option Value} {news : List (Addr × Obj)}
noncomputable def ApInv (news : Led) (tot : Nat) (g : Heap) (L : Addr) (s : Shared) (k : Nat) (s' : Shared) : Prop :=
  ∃ h tk m₁ t wd t2 t3, s' = { s with heap := h, toks := tk } ∧ Fr g L h m₁ ∧ News g L h news ∧ m₁ "num" = some (.int (k : Nat) t) ∧ m₁ "val" = some (.bytes (List.toArray wd) t2) ∧ m₁ "AP" = some (.bytes apB t3) ∧
    k < 2 ^ 60 ∧ wordOf k ++ wd = wordOf tot
theorem c_ap {x : Int} {ta : Tok} (hx : x.natAbs < 2 ^ 60 := by first | assumption | omega) :
    Claim w p loose mean mg mb 3 99 [.int x ta] news (IsY (wordOf x.natAbs) news) := by
  intro dp un gd cn cs a ccd cl outer A₀ base h₀ L m s R B F XX N T hk hd hu hret
  k_dflt cell_enter
  refine execs_cut 3 ?_
  show wpAny _ _ (execs [_, _, _] _) _ _ _
  k_steps
  show Cut _
  unfold Cut
  rename Fr _ _ _ _ => F9
  rename News _ _ _ _ => N9
  rename_i u9 tk9 h9 tz9
  obtain ⟨m9, tb, tc, F8, e1, e2, e3⟩ : ∃ m9 tb tc, Fr _ _ h9 m9 ∧ m9 "num" = some (.int (x.natAbs : Nat) u9) ∧ m9 "val" = some (.bytes (List.toArray []) tb) ∧ m9 "AP" = some (.bytes apB tc) := ⟨_, _, _, F9, by show some (Value.int (if x < 0 then -x else x) u9) = _; rw [show (if x < 0 then -x else x) = (x.natAbs : Int) by split <;> omega], by with_unfolding_all rfl, by with_unfolding_all rfl⟩
  clear F9
  refine wpAny_execs_cons (while_inv (ApInv news x.natAbs _ _ s) x.natAbs ⟨_, _, _, _, [], _, _, rfl, F8, N9, e1, e2, e3, hx, List.append_nil _⟩ ?_)
  rintro k s' ⟨h', tk', m₁, t, wd, t2, t3, rfl, F', N', e1, e2, e3, hk2, hw⟩
  have hlen : wd.length ≤ 15 := by
    have := wordOf_len 15 x.natAbs (Nat.lt_of_lt_of_le hx (by decide))
    rw [← hw, List.length_append] at this
    omega
  dsimp only
  k_steps
  · rename ¬ _ => hk0
    rename Fr _ _ _ _ => F9
    rename News _ _ _ _ => N9
    have hj : ((k : Nat) : Int).fmod 16 = ((k % 16 : Nat) : Int) := by rw [Int.fmod_eq_emod_of_nonneg _ (by decide)]; rfl
    have hq : ((k : Nat) : Int).fdiv 16 = ((k / 16 : Nat) : Int) := by rw [Int.fdiv_eq_ediv_of_nonneg _ (by decide)]; rfl
    have hlt : k % 16 < 16 := Nat.mod_lt _ (by decide)
    rw [hj, hq] at F9
    simp only [hj]
    refine KBy.slice_N (s := ⟨_, _, _, _, _⟩) F9 N9 (by constructor) (by constructor) (ap_whole hlt) (by rw [ap_picked hlt]; exact Nat.le_of_ble_eq_true rfl) ?_
    intro h2 t2 k2 F2 N2
    rw [ap_picked hlt]
    k_steps
    refine KBy.add_bytes (by rw [List.size_toArray]; show 1 + wd.length ≤ _; omega) ?_
    intro t4 k4
    k_steps
    rename Fr _ _ _ _ => F9
    rename News _ _ _ _ => N9
    rw [show (#[UInt8.ofNat (65 + k % 16)] ++ wd.toArray) = (UInt8.ofNat (65 + k % 16) :: wd).toArray by simp] at F9
    have hne : k ≠ 0 := by simpa using hk0
    refine ⟨k / 16, Nat.div_lt_self (Nat.pos_of_ne_zero (by assumption)) (by decide), _, _, _, _, UInt8.ofNat (65 + k % 16) :: wd, _, _, rfl, F9, fun q hq => N9 q (.tail _ hq), by with_unfolding_all rfl, by with_unfolding_all rfl, by with_unfolding_all exact e3, by omega, ?_⟩
    · rw [← hw, wordOf_pos hne]; simp
  · have hk0 : k = 0 := by simpa using (by assumption : ((k : Nat) : Int) = 0)
    subst hk0
    rw [wordOf_zero, List.nil_append] at hw
    exact hret _ _ _ _ ⟨⟨_, by rw [hw]⟩, rfl⟩ (by k_asm) (by k_asm)

end Mine
end
theorem Mine.look6 : True := by first | (walk1; fail) | trivial
section
open PySem PySem.W PyProof.Rows PySem.Calls
set_option maxHeartbeats 4000000
namespace Mine
variable {w : World} {p : Program} {loose : List Str} {mean : ExcName → Option Value} {mg mb : Str → Option Value} {news : List (Addr × Obj)}
local macro_rules | `(tactic| walk_at "call ref") => `(tactic| (k_here; with_reducible refine atR 99 ?_; k_dflt (refine Claim.goY c_ap ?_; k_whole; intros; (try dsimp only))))
theorem c_size (x : Int) (ta : Tok) (hx : x.natAbs < 2 ^ 60) :
    Claim w p loose mean mg mb 5 221 [.int x ta] news (fun v n' => ∃ a t1 t2, v = .ref a ∧ (∀ q ∈ news, q.1 < a) ∧ n' = (a, { cls := .type "tuple", data := .seq #[.int (wordOf x.natAbs).length t1, .bytes (wordOf x.natAbs).toArray t2] }) :: news) := by
  intro dp un gd cn cs a ccd cl outer A₀ base h₀ L m s R B F XX N T hk hd hu hret
  k_dflt cell_enter
  show wpAny _ _ (execs (_ :: _) _) _ _ _
  have hlen : (wordOf x.natAbs).length ≤ 15 := wordOf_len 15 x.natAbs (Nat.lt_of_lt_of_le hx (by decide))
  k_steps
  rename News _ _ _ _ => N9
  rw [List.size_toArray] at N9
  exact hret _ _ _ _ ⟨_, _, _, rfl, by assumption, rfl⟩ (by k_asm) N9
section
variable {dp un : Nat} {gd : Option (List Code)} {cn : Str} {cs : Scope} {a : Addr} {ccd : Value} {cl : List (Str × Addr)} {outer : List Env} {A₀ : Around} {base h₀ : Heap} {L : Addr} {m : Str → Option Value} {s : Shared} {Q E : Value → Shared → Prop}
theorem size_rule {x : Int} {ta : Tok} {news : Led}
    (ret : ∀ (a' : Addr) (t1 t2 : Tok) (h' : Heap) (tk' : Nat), Fr h₀ L h' m → News h₀ L h' ((a', { cls := .type "tuple", data := .seq #[.int (wordOf x.natAbs).length t1, .bytes (wordOf x.natAbs).toArray t2] }) :: news) → (∀ q ∈ news, q.1 < a') → Q (.ref a') { s with heap := h', toks := tk' })
    (N : News h₀ L s.heap news := by k_asm) (hx : x.natAbs < 2 ^ 60 := by exact Bd.lt (by assumption) (by decide))
    (B : Below A₀ base outer h₀ := by k_asm) (F : Fr h₀ L s.heap m := by k_asm) (X : (K w.params).In h₀ := by k_asm) (T : Top p loose mean mg mb h₀ := by k_asm) (hk : cs.kind = .function := by rfl) (hd : dp + 5 < recursionLimit := by walk_at "zz room") (hu : un + 10 * 5 < cLine := by walk_at "zz room") :
    wpAny (model Pw w) (ktrTop dp un gd cn cs L a ccd cl outer) (call (.ref 221) [.int x ta]) Q E s :=
  (c_size x ta hx).use B F X N T hk hd hu fun v n' h' tk' hp F' N' => hp.elim fun a' hp => hp.elim fun t1 hp => hp.elim fun t2 hp => hp.1 ▸ ret a' t1 t2 h' tk' F' (hp.2.2 ▸ N') hp.2.1
end

end Mine
end
theorem Mine.look7 : True := by first | (walk1; fail) | trivial
section
open PySem PySem.W PyProof.Rows PySem.Calls PySem.Spec
namespace Mine
open Builtin
theorem slot_bytes_gt : Slot "bytes" (cmpInfo .Gt).2.1 "bytes.__gt__" :=
  .of (owner := "bytes") (n := "__gt__") (by rw [typeLookup_type, builtinLookup_eq_fast]; kernel_rfl) (by decide +kernel) (by decide +kernel) (by decide +kernel)
    (by first | exact .inl (by decide +kernel) | exact .inr (by decide +kernel)) (by rw [isSubtype_type]; kernel_rfl)
theorem entry_bytes_gt : entryFor table "bytes.__gt__" = some Builtin.«bytes.__gt__» := entryFor_of_tree (by kernel_rfl)
theorem args_bytes_gt (a b : Value) : argsOk "bytes.__gt__" ⟨[a, b], []⟩ := by unfold argsOk; kernel_rfl
theorem gives_bytes_gt (b c : Array UInt8) (t u : Tok) : Gives («bytes.__gt__» ⟨[.bytes b t, .bytes c u], []⟩) (.val (.bool (Bytes.order b.toList c.toList == .gt))) := by
  refine .of_wp fun M A E s Q hq => ?_
  show wpAny M A (isInstance (.bytes c u) (.type "bytes") >>= fun r => _) _ E s
  refine wpAny_bind (wpAny_isInstance (typeIs_bytes s c u) F.sub_bytes_bytes ?_)
  exact wpAny_pure ⟨_, rfl, hq⟩
noncomputable def pairGt (x y : Int) (u v : List UInt8) : Bool := if x = y then Bytes.order u v == .gt else decide (x > y)
section
variable {prog : Program} {w : World} {A : Around} {E : Value → Shared → Prop} {s : Shared} {a b : Nat} {x y : Int} {u v : Array UInt8} {t1 t2 t3 t4 : Tok}
noncomputable abbrev pairOf (x : Int) (t1 : Tok) (u : Array UInt8) (t2 : Tok) : Obj := { cls := .type "tuple", data := .seq #[.int x t1, .bytes u t2] }
theorem tuple_gt_tree {P : Fin → Shared → Prop} (ha : s.heap.get? a = some (pairOf x t1 u t2)) (hb : s.heap.get? b = some (pairOf y t3 v t4)) (h : P (.done (.ret (.bool (pairGt x y u.toList v.toList)))) s) :
    wpAny (model prog w) A (Builtin.«tuple.__gt__» ⟨[.ref a, .ref b], []⟩) P E s := by
  show wpAny _ _ (isInstance (.ref b) (.type "tuple") >>= _) _ _ s
  refine wpAny_bind (wpAny_isInstance (T := "tuple") ⟨_, hb, rfl⟩ isSubtype_tuple_tuple ?_)
  simp only [Bool.not_true, Bool.false_eq_true, if_false]
  refine wpAny_bind (wpAny_tupleItemsOf ha rfl ?_)
  refine wpAny_bind (wpAny_tupleItemsOf hb rfl ?_)
  show wpAny _ _ (forIn [(Value.int x t1, Value.int y t3), (Value.bytes u t2, Value.bytes v t4)] _ _ >>= _) _ _ _
  rw [List.forIn_cons]
  refine wpAny_bind (wpAny_bind (wpAny_bind (wpAny_eqBool_int ?_)))
  by_cases hxy : x = y
  · subst hxy
    rw [beq_self_eq_true]
    refine wpAny_pure ?_
    show wpAny _ _ (forIn [(Value.bytes u t2, Value.bytes v t4)] _ _) _ _ _
    rw [List.forIn_cons]
    refine wpAny_bind (wpAny_bind (eqBool_bytes ?_))
    by_cases huv : u.toList = v.toList
    · rw [decide_eq_true huv]
      refine wpAny_pure (wpAny_pure (wpAny_pure ?_))
      rw [show pairGt x x u.toList v.toList = false from by
        unfold pairGt
        rw [if_pos rfl, huv]
        have := order_eq v.toList v.toList
        rw [beq_self_eq_true] at this
        rw [eq_of_beq this]
        rfl] at h
      exact h
    · rw [decide_eq_false huv]
      rw [show pairGt x x u.toList v.toList = (Bytes.order u.toList v.toList == .gt) from if_pos rfl] at h
      refine wpAny_bind (wpAny_rule (wpAny_bind ?_))
      show wpAny _ _ (compareOp .Gt (.bytes u t2) (.bytes v t4)) _ _ _
      refine compareOp_gives (op := .Gt) (typeIs_bytes s u t2) (typeIs_bytes s v t4) slot_bytes_gt entry_bytes_gt (args_bytes_gt _ _) (gives_bytes_gt u v t2 t4) (fun e => nomatch e) ?_
      exact wpAny_bind (wpAny_pure (wpAny_pure (wpAny_pure (wpAny_pure h))))
  · rw [beq_eq_false_iff_ne.mpr hxy]
    rw [show pairGt x y u.toList v.toList = decide (x > y) from if_neg hxy] at h
    refine wpAny_bind (wpAny_rule (wpAny_bind ?_))
    show wpAny _ _ (compareOp .Gt (.int x t1) (.int y t3)) _ _ _
    refine PySem.SiftDown.gt_int ?_
    exact wpAny_bind (wpAny_pure (wpAny_pure (wpAny_pure (wpAny_pure h))))
theorem gt_pair {Q : Value → Shared → Prop} (h : Q (.bool (pairGt x y u.toList v.toList)) s) (ha : s.heap.get? a = some (pairOf x t1 u t2) := by exact News.get (by k_asm) (by k_mem)) (hb : s.heap.get? b = some (pairOf y t3 v t4) := by exact News.get (by k_asm) (by k_mem)) (hu : A.units < cLine := by first | (show _ < _; omega) | ktr_units) :
    wpAny (model prog w) A (compareOp .Gt (.ref a) (.ref b)) Q E s :=
  wpAny_richCompare_same_room (op := .Gt) (T := "tuple") ⟨_, ha, rfl⟩ ⟨_, hb, rfl⟩ F.slot_tuple_gt (wpAny_call_entry F.slot_tuple_gt ⟨_, ha, rfl⟩ F.entry_tuple_gt (tuple_gt_tree ha hb ⟨_, rfl, (fun e => nomatch e), h⟩) (F.args_tuple_gt_2 _ _)) hu
end
end Mine

end
section
open PySem PySem.W PyProof.Rows PySem.Calls PySem.Spec PySem.SeqAt
namespace Mine
section
variable {prog : Program} {w : World} {A : Around} {E : Value → Shared → Prop} {s : Shared} {x y : Nat}
theorem eqAt_int (a b : Int) (t u : Tok) : EqAt A s (.int a t) (.int b u) (a == b) := fun prog w E Q h => wpAny_eqBool_int h
theorem eq_four {a b c d i j k l : Int} {ta tb tc td ti tj tk tl : Tok} {n1 n2 : Nat} {Q : Value → Shared → Prop}
    (h : Q (.bool (decide (a = i ∧ b = j ∧ c = k ∧ d = l))) s)
    (h1 : s.heap.get? x = some (listOf #[.int a ta, .int b tb, .int c tc, .int d td] n1) := by exact News.get (by k_asm) (by k_mem)) (h2 : s.heap.get? y = some (listOf #[.int i ti, .int j tj, .int k tk, .int l tl] n2) := by exact News.get (by k_asm) (by k_mem)) (hu : A.units < cLine := by first | (show _ < _; omega) | ktr_units) : wpAny (model prog w) A (compareOp .Eq (.ref x) (.ref y)) Q E s := by
  have e : RcAt A s (.ref x) (.ref y) ((List.range 4).all fun n => match n with | 0 => a == i | 1 => b == j | 2 => c == k | _ => d == l) := by
    refine RcAt.lists (items := #[.int a ta, .int b tb, .int c tc, .int d td]) (items2 := #[.int i ti, .int j tj, .int k tk, .int l tl]) ⟨_, h1, rfl, _, rfl⟩ ⟨_, h2, rfl, _, rfl⟩ rfl hu ?_
    intro n g1 g2
    match n, g1 with
    | 0, _ => exact eqAt_int _ _ _ _
    | 1, _ => exact eqAt_int _ _ _ _
    | 2, _ => exact eqAt_int _ _ _ _
    | 3, _ => exact eqAt_int _ _ _ _
  have ev : ((List.range 4).all fun n => match n with | 0 => a == i | 1 => b == j | 2 => c == k | _ => d == l) = decide (a = i ∧ b = j ∧ c = k ∧ d = l) := by
    by_cases q1 : a = i <;> by_cases q2 : b = j <;> by_cases q3 : c = k <;> by_cases q4 : d = l <;> simp [List.range, List.range.loop, q1, q2, q3, q4]
  rw [ev] at e
  exact e prog w E Q h
theorem eq_two {a b i j : Int} {ta tb ti tj : Tok} {Q : Value → Shared → Prop}
    (h : Q (.bool (decide (a = i ∧ b = j))) s)
    (h1 : s.heap.get? x = some { cls := .type "tuple", data := .seq #[.int a ta, .int b tb] } := by exact News.get (by k_asm) (by k_mem)) (h2 : s.heap.get? y = some { cls := .type "tuple", data := .seq #[.int i ti, .int j tj] } := by exact News.get (by k_asm) (by k_mem)) (hu : A.units < cLine := by first | (show _ < _; omega) | ktr_units) : wpAny (model prog w) A (compareOp .Eq (.ref x) (.ref y)) Q E s := by
  have e := RcAt.tuples (A := A) (s := s) (l := x) (b := y) (items := #[.int a ta, .int b tb]) (items2 := #[.int i ti, .int j tj]) (e := fun n => match n with | 0 => a == i | _ => b == j) ⟨_, h1, rfl, _, rfl⟩ ⟨_, h2, rfl, _, rfl⟩ hu (by
    intro n g1 g2
    match n, g1 with
    | 0, _ => exact eqAt_int _ _ _ _
    | 1, _ => exact eqAt_int _ _ _ _)
  have ev : ((List.range (min (#[Value.int a ta, .int b tb] : Array Value).size (#[Value.int i ti, .int j tj] : Array Value).size)).all (fun n => match n with | 0 => a == i | _ => b == j) && (#[Value.int a ta, .int b tb] : Array Value).size == (#[Value.int i ti, .int j tj] : Array Value).size) = decide (a = i ∧ b = j) := by
    by_cases q1 : a = i <;> by_cases q2 : b = j <;> simp [List.range, List.range.loop, q1, q2]
  rw [ev] at e
  exact e prog w E Q h
end
end Mine

end
section
open PySem PySem.W PyProof.Rows PySem.Calls PySem.Spec
namespace Mine
noncomputable def entryOk (e : DictEntry) : Bool := match e.key, e.val with
  | .int k _, .str _ _ => e.hash == k && hashInt k == k
  | _, _ => false
theorem b3_ok : (b3Of (st 3)).all entryOk = true := by decide +kernel
theorem b3_len : (b3Of (st 3)).length = 650 := by decide +kernel
noncomputable def b3Map (k : Int) : Option Value := findBy (fun k v => Value.isInt k v) b3Entries k
theorem o33_map (prog : Program) (w : World) (P : Params) {h : Heap} (e : h.get? 33 = some (o33 P)) : h.MapOf (intKind prog w) 33 b3Map := by
  refine ⟨o33 P, _, _, e, ⟨rfl, rfl, rfl⟩, rfl, ?_, fun k => rfl⟩
  intro x hx
  have hx' : x ∈ b3Of (st 3) := by simpa [b3Entries] using hx
  have := List.all_eq_true.mp b3_ok x hx'
  unfold entryOk at this
  split at this
  · rename_i k t sv tv hk hv
    rw [Bool.and_eq_true, beq_iff_eq, beq_iff_eq] at this
    refine ⟨k, ?_, this.1.trans this.2.symm⟩
    rw [hk]
    show Value.isInt k (.int k t) = true
    simp [Value.isInt]
  · cases this
theorem b3_val {k : Int} {v : Value} (h : b3Map k = some v) : ∃ s t, v = .str s t := by
  unfold b3Map findBy at h
  cases hf : b3Entries.find? (fun e => Value.isInt k e.key) with
  | none => rw [hf] at h; cases h
  | some e =>
    rw [hf] at h
    have hm := Array.mem_of_find?_eq_some hf
    have hx' : e ∈ b3Of (st 3) := by simpa [b3Entries] using hm
    have := List.all_eq_true.mp b3_ok e hx'
    unfold entryOk at this
    split at this
    · rename_i k t sv tv hk hv
      injection h with h
      exact ⟨sv, tv, h ▸ hv⟩
    · cases this
end Mine

end
section
namespace Mine
theorem plainTok_nil (tok : List Nat) : plainTok tok [] = (tok, []) := by unfold plainTok; rfl
theorem plainTok_cons (tok : List Nat) (c : Nat) (r : List Nat) : plainTok tok (c :: r) = if isWs c then (tok, r) else if c = 92 then plainTok (tok ++ r.take 1) r.tail else plainTok (tok ++ [c]) r := by
  rw [plainTok.eq_def]
  cases r with
  | nil => simp [plainTok_nil]
  | cons d r => simp
theorem quotTok_nil (tok : List Nat) : quotTok tok [] = (tok, []) := by unfold quotTok; rfl
theorem quotTok_cons (tok : List Nat) (c : Nat) (r : List Nat) : quotTok tok (c :: r) = if c = 34 then (tok, r) else if c = 92 then quotTok (tok ++ r.take 1) r.tail else quotTok (tok ++ [c]) r := by
  rw [quotTok.eq_def]
  cases r with
  | nil => simp [quotTok_nil]
  | cons d r => simp
theorem token_nil : token [] = ([], []) := by unfold token; rfl
theorem token_cons (c : Nat) (r : List Nat) : token (c :: r) = if isWs c then token r else if c = 34 then quotTok [] r else plainTok [] (c :: r) := by
  rw [token.eq_def]
end Mine

end
section
open PySem PySem.W PyProof.Rows PySem.Calls
set_option maxHeartbeats 4000000
namespace Mine
variable {w : World} {p : Program} {loose : List Str} {mean : ExcName → Option Value} {mg mb : Str → Option Value} {news : List (Addr × Obj)}
noncomputable def forBody : Stmt → List Stmt
  | .For _ _ b _ _ => b
  | _ => []
noncomputable def ifThen : Stmt → List Stmt
  | .If _ b _ _ => b
  | _ => []
noncomputable def ifElse : Stmt → List Stmt
  | .If _ _ b _ => b
  | _ => []
noncomputable def gtFor : Stmt := nth (dBody (nth (cBody (st 10)) 2)) 3
noncomputable def gtQuot : Stmt := nth (ifThen (nth (forBody gtFor) 1)) 0
noncomputable def gtPlain : Stmt := nth (ifElse (nth (forBody gtFor) 1)) 2
noncomputable def gtScope : { x : Scope // x = dScope (nth (cBody (st 10)) 2) } := ⟨⟨_, _, _, _, _⟩, rfl⟩
noncomputable abbrev gtEnv (L : Addr) : Env := envOf (Str.ofString "_netrclex.get_token") gtScope.1 L 127 (.ref 126)
theorem News.lex {h₀ h : Heap} {L : Addr} {X : Lx} {rem : List Nat} {tp tl : Tok} {push : Array Value} {np it mo : Nat} {io : Obj} {rest : Led} (N : News h₀ L h (tokLed w X rem tp tl push np it mo io rest)) :
    News h₀ L h (lexLed w X (X.posOf rem) (X.lineOf rem) tp tl push np rest) := by
  intro q hq
  exact N q (lex_out (.tail _ (lex_out (.tail _ hq))))
theorem ws_occ (c : Nat) : (Builtin.Str.occurrences (Str.ofString "\n\t\r ") ⟨#[c]⟩ 0 (Str.ofString "\n\t\r ").length 1).isEmpty = !isWs c := by
  have h := PySem.StrLaws.found_one (Str.ofString "\n\t\r ") c
  rw [show (Str.ofString "\n\t\r ").cps.toList = [10, 9, 13, 32] from by decide +kernel] at h
  rw [← Bool.not_not (List.isEmpty _), h]
  unfold isWs
  congr 1
  by_cases h1 : c = 10 <;> by_cases h2 : c = 9 <;> by_cases h3 : c = 13 <;> by_cases h4 : c = 32 <;> simp [h1, h2, h3, h4]
theorem one_eq (c k : Nat) (x : Str) (h : x = ⟨#[k]⟩) : ((⟨#[c]⟩ : Str) == x) = (c == k) := by
  subst h
  by_cases h : c = k
  · subst h; rw [beq_self_eq_true, beq_self_eq_true]
  · rw [beq_eq_false_iff_ne.mpr h, beq_eq_false_iff_ne]
    intro e
    injection e with e
    exact h (by simpa using e)
theorem app_one (tok : List Nat) (c : Nat) : ((⟨tok.toArray⟩ : Str) ++ (⟨#[c]⟩ : Str)) = ⟨(tok ++ [c]).toArray⟩ := by
  show (⟨tok.toArray ++ #[c]⟩ : Str) = _
  congr 1
  simp
theorem app_chS (tok r : List Nat) : ((⟨tok.toArray⟩ : Str) ++ chS r) = ⟨(tok ++ r.take 1).toArray⟩ := by
  cases r with
  | nil => show (⟨tok.toArray ++ #[]⟩ : Str) = _; simp
  | cons c r => exact app_one tok c
noncomputable def InInv (spec : List Nat → List Nat → List Nat × List Nat) (w : World) (X : Lx) (res : List Nat × List Nat) (np : Nat) (rest : Led) (it mo : Nat) (ts : Tok) (g : Heap) (L : Addr) (s : Shared) (k : Nat) (s' : Shared) : Prop :=
  ∃ h tk m₁ t tok rem tp tl, s' = { s with heap := h, toks := tk } ∧ Fr g L h m₁ ∧ News g L h (tokLed w X rem tp tl #[] np it mo (itOf mo ts) rest) ∧ m₁ "self" = some (.ref X.x) ∧ m₁ "fiter" = some (.ref it) ∧ rem <:+ X.cs ∧
    k = rem.length ∧ m₁ "token" = some (.str ⟨tok.toArray⟩ t) ∧ spec tok rem = res ∧ tok.length + rem.length ≤ X.cs.length
theorem in_plain {X : Lx} (hX : X.Ok) (hl : X.cs.length ≤ 10000) {np : Nat} {rest : Led} (hr : Apart X rest) {it mo : Nat} {ts : Tok} (hit : X.lp < it) (hmo : X.lp < mo) (him : it ≠ mo) (hri : ∀ q ∈ rest, q.1 ≠ it)
    {dp un : Nat} {gd : Option (List Code)} {cn : Str} {cs : Scope} {a : Addr} {ccd : Value} {cl : List (Str × Addr)} {outer : List Env} {A₀ : Around} {base g : Heap} {L L₀ : Addr} {s s₀ : Shared}
    (B : Below A₀ base (envX cn cs L₀ a ccd cl :: outer) g) (XX : (K w.params).In g) (T : Top p loose mean mg mb g) (hd : dp + 6 < recursionLimit) (hu : un + 10 * 6 < cLine)
    {res : List Nat × List Nat} {n : Nat} (I : InInv plainTok w X res np rest it mo ts g L s₀ n s) {Q : Flow → Shared → Prop} {E : Value → Shared → Prop}
    (hE : PassesOwn (model Pw w) ((ktrTop dp un gd cn cs L₀ a ccd cl outer).deeper (gtEnv L)) (gtEnv L) E)
    (hn : ∀ h tk m₁ t tp tl, Fr g L h m₁ → News g L h (tokLed w X [] tp tl #[] np it mo itDone rest) → m₁ "self" = some (.ref X.x) → m₁ "fiter" = some (.ref it) → m₁ "token" = some (.str ⟨res.1.toArray⟩ t) → res.2 = [] → Q .next { s₀ with heap := h, toks := tk })
    (hret : ∀ h tk m₁ t tp tl, Fr g L h m₁ → News g L h (tokLed w X res.2 tp tl #[] np it mo (itOf mo ts) rest) → Q (.ret (.str ⟨res.1.toArray⟩ t)) { s₀ with heap := h, toks := tk }) :
    wpAny (model Pw w) ((ktrTop dp un gd cn cs L₀ a ccd cl outer).deeper (gtEnv L)) (exec gtPlain (gtEnv L)) Q E s := by
  have hcode : CodeHd g 196 192 := codeHd_of_K XX (by kernel_rfl)
  obtain ⟨x1, x2, x3, x4, o1, o2, o3, o4, o5, o6, o7, o8, o9⟩ := id hX
  obtain ⟨r1, r2, r3⟩ := id hr
  have hr' : Apart X ((it, itOf mo ts) :: (mo, methodObj (.ref 120) (.ref X.x)) :: rest) := Apart.up hX (q := (it, _)) (Apart.up hX (q := (mo, _)) hr hmo) hit
  refine for_inv (it := it) (InInv plainTok w X res np rest it mo ts g L s₀) n ?_ ?_ (hE := hE)
  · obtain ⟨h', tk', m₁, t, tok, rem, tp, tl, rfl, F', N', e1, e2, hs', rfl, e3, e4, e5⟩ := I
    dsimp only [gtEnv, gtScope]
    k_steps
    · exact ⟨_, (N' (it, itOf mo ts) tok_it).1, rfl⟩
    exact ⟨_, _, _, _, _, rem, _, _, rfl, F', N', e1, e2, hs', rfl, e3, e4, e5⟩
  · clear I
    rintro k s' ⟨h', tk', m₁, t, tok, rem, tp, tl, rfl, F', N', e1, e2, hs', rfl, e3, e4, e5⟩
    refine next_rd (dp := dp + 1) (un := un + 3) (s := { s₀ with heap := h', toks := tk' }) (L := L) hX hs' hl hr hit hmo him hri B F' XX N' T rfl (by omega) (by omega) ?_ ?_
    · rintro c r rfl h' tk' t' tp' tl' F' N'
      dsimp only
      dsimp only [gtEnv, gtScope] at F' N' ⊢
      dsimp only [tokLed, lexLed] at N'
      walk1
      k_fold
      k_steps
      · rename List.isEmpty _ = _ => w9
        rename BEq.beq _ _ = _ => w8
        rename Fr _ _ _ _ => F2
        rename News _ _ _ _ => N2
        rw [ws_occ, Bool.not_eq_true'] at w9
        rw [one_eq c 92 _ (by decide +kernel), beq_iff_eq] at w8
        subst w8
        rw [plainTok_cons, w9, if_neg (by decide), if_pos rfl] at e4
        refine Claim.use (dp := dp + 1) (un := un + 3) (c_rd X hX r (List.suffix_cons .. |>.trans hs') hl _ _ _ _ _ hr') B F2 XX N2 T rfl (by omega) (by omega) ?_
        rintro v n' h2 tk2 ⟨⟨t2, rfl⟩, tp2, tl2, rfl⟩ F3 N3
        dsimp only [lexLed] at F3 N3 ⊢
        have hfit : ((⟨tok.toArray⟩ : Str).length + (chS r).length : Nat) ≤ 10001 := by
          have : (chS r).length ≤ 1 := by
            cases r with
            | nil => exact Nat.zero_le 1
            | cons c r => exact Nat.le_refl 1
          have : (⟨tok.toArray⟩ : Str).length = tok.length := by simp [Str.length]
          simp only [List.length_cons] at e5
          omega
        k_steps
        rename Fr _ _ _ _ => F4
        rename News _ _ _ _ => N4
        rw [app_chS] at F4
        refine ⟨r.tail.length, by simp only [List.length_tail, List.length_cons]; omega, _, _, _, _, tok ++ r.take 1, r.tail, _, _, rfl, F4, N4, by with_unfolding_all exact e1, by with_unfolding_all exact e2, ((List.tail_suffix r).trans ((List.suffix_cons ..).trans hs')), rfl, by with_unfolding_all rfl, e4, ?_⟩
        · simp only [List.length_cons, List.length_append, List.length_tail, List.length_take] at e5 ⊢; omega
      · rename List.isEmpty _ = _ => w9
        rename BEq.beq _ _ = _ => w8
        rename Fr _ _ _ _ => F2
        rename News _ _ _ _ => N2
        rw [ws_occ, Bool.not_eq_true'] at w9
        rw [one_eq c 92 _ (by decide +kernel), beq_eq_false_iff_ne] at w8
        rw [plainTok_cons, w9, if_neg (by decide), if_neg w8] at e4
        rw [app_one] at F2
        refine ⟨r.length, Nat.lt_succ_self _, _, _, _, _, tok ++ [c], r, _, _, rfl, F2, N2, by with_unfolding_all exact e1, by with_unfolding_all exact e2, (List.suffix_cons .. |>.trans hs'), rfl, by with_unfolding_all rfl, e4, by simp only [List.length_cons, List.length_append, List.length_nil] at e5 ⊢; omega⟩
      · rename List.isEmpty _ = _ => w9
        rename Fr _ _ _ _ => F2
        rename News _ _ _ _ => N2
        rw [ws_occ, Bool.not_eq_false'] at w9
        obtain rfl : res = (tok, r) := by rw [← e4, plainTok_cons, w9, if_pos rfl]
        exact hret _ _ _ _ _ _ F2 N2
    · rintro rfl h' tk' tp' tl' F' N'
      obtain rfl : res = (tok, []) := by rw [← e4]; rfl
      exact hn _ _ _ _ _ _ F' N' e1 e2 e3 rfl

end Mine
end
theorem Mine.look8 : True := by first | (walk1; fail) | trivial
section
open PySem PySem.W PyProof.Rows PySem.Calls
set_option maxHeartbeats 4000000
namespace Mine
variable {w : World} {p : Program} {loose : List Str} {mean : ExcName → Option Value} {mg mb : Str → Option Value} {news : List (Addr × Obj)}
theorem isK (prog : Program) (w : World) (k : Int) (t : Tok) : (intKind prog w).is k (.int k t) = true := by
  show Value.isInt k (.int k t) = true
  simp [Value.isInt]
noncomputable def b3Out (x : Nat) : Str := match b3Map x with
  | some (.str s _) => s
  | _ => Txt.lower ⟨#[x]⟩
theorem c_b3 {x : Nat} {tx : Tok} :
    Claim w p loose mean mg mb 1 78 [.str ⟨#[x]⟩ tx] news (IsS (b3Out x) news) := by
  intro dp un gd cn cs a ccd cl outer A₀ base h₀ L m s R B F XX N T hk hd hu hret
  k_dflt cell_enter
  show wpAny _ _ (execs (_ :: _) _) _ _ _
  k_steps
  rename Fr _ _ _ _ => F9
  rename Frag.In _ _ => X9
  have e33 := F9.keep _ _ (X9 33 (o33 w.params) (by kernel_rfl))
  refine getMethod_builtin ⟨_, e33, rfl⟩ PySem.F.plainAttrs_dict PySem.F.slot_dict_get PySem.F.type_dict_get (fun a e => by cases e; exact ⟨_, e33, rfl⟩) ?_
  k_steps
  rename Fr _ _ _ _ => F8
  rename Frag.In _ _ => X8
  have e34 := F8.keep _ _ (X8 33 (o33 w.params) (by kernel_rfl))
  refine' call_meetsIn PySem.F.slot_dict_get ?h1 PySem.F.entry_dict_get ?h2 ?h3 ?h4
  case h1 => exact ⟨_, e34, rfl⟩
  case h2 => exact PySem.F.args_dict_get_2 _ _
  case h3 =>
    exact meets_dict_get (intKind Pw w) 33 (k := (x : Int)) (isK _ _ _ _) rfl
  refine ⟨b3Map, o33_map _ _ _ e34, ?_⟩
  cases hb : b3Map x with
  | none =>
    dsimp only [Option.getD]
    k_steps
    refine SCL.lower (Nat.le_of_ble_eq_true rfl) ?_
    intro _
    k_steps
    exact hret _ _ _ _ ⟨⟨_, by unfold b3Out; rw [hb]⟩, rfl⟩ (by k_asm) (by k_asm)
  | some v =>
    obtain ⟨s1, t1, rfl⟩ := b3_val hb
    dsimp only [Option.getD]
    k_steps
    exact hret _ _ _ _ ⟨⟨_, by unfold b3Out; rw [hb]⟩, rfl⟩ (by k_asm) (by k_asm)

end Mine
end
theorem Mine.look9 : True := by first | (walk1; fail) | trivial
section
open PySem PySem.W PyProof.Rows PySem.Calls PySem.Spec
namespace Mine
noncomputable def b1L : List Int := [65024, 65025, 65026, 65027, 65028, 65029, 6150, 65030, 65031, 65032, 65033, 6155, 6156, 6157, 8203, 8204, 8205, 65034, 65035, 65036, 65037, 65038, 65039, 173, 847, 8288, 65279]
noncomputable def inB1 (k : Int) : Bool := decide (k ∈ b1L)
noncomputable def b1Es : List (Int × Value) := [(65024, (.int 65024 205)), (65025, (.int 65025 206)), (65026, (.int 65026 207)), (65027, (.int 65027 208)), (65028, (.int 65028 209)), (65029, (.int 65029 210)), (6150, (.int 6150 191)), (65030, (.int 65030 211)), (65031, (.int 65031 212)), (65032, (.int 65032 213)), (65033, (.int 65033 214)), (6155, (.int 6155 192)), (6156, (.int 6156 193)), (6157, (.int 6157 194)), (8203, (.int 8203 195)), (8204, (.int 8204 196)), (8205, (.int 8205 197)), (65034, (.int 65034 215)), (65035, (.int 65035 216)), (65036, (.int 65036 217)), (65037, (.int 65037 218)), (65038, (.int 65038 219)), (65039, (.int 65039 220)), (173, (.int 173 189)), (847, (.int 847 190)), (8288, (.int 8288 198)), (65279, (.int 65279 199))]
theorem b1_elem : ∀ x ∈ b1Es, ∃ k t, x = (k, .int k t) ∧ k ∈ b1L ∧ hashInt k = k := by
  intro x hx
  simp only [b1Es, List.mem_cons, List.not_mem_nil, or_false] at hx
  rcases hx with rfl | rfl | rfl | rfl | rfl | rfl | rfl | rfl | rfl | rfl | rfl | rfl | rfl | rfl | rfl | rfl | rfl | rfl | rfl | rfl | rfl | rfl | rfl | rfl | rfl | rfl | rfl
  all_goals exact ⟨_, _, rfl, by decide +kernel, by decide +kernel⟩
theorem b1_has : ∀ k ∈ b1L, ∃ t, (k, Value.int k t) ∈ b1Es := by
  intro k hk
  have : b1Es.map (·.1) = b1L := rfl
  rw [← this, List.mem_map] at hk
  obtain ⟨x, hx, rfl⟩ := hk
  obtain ⟨k, t, rfl, _⟩ := b1_elem x hx
  exact ⟨t, hx⟩
theorem o22_set (prog : Program) (w : World) (P : Params) : (o22 P).SetObjOf (intKind prog w) inB1 27 := by
  refine ⟨⟨rfl, rfl, rfl⟩, b1Es.toArray, _, _, rfl, ?_, ?_, rfl, rfl⟩
  · intro x hx
    obtain ⟨k, t, rfl, _, h⟩ := b1_elem x (by simpa using hx)
    exact ⟨⟨k, (show Value.isInt k (.int k t) = true by simp [Value.isInt]), h.symm⟩, rfl⟩
  · intro k
    unfold inB1
    rw [decide_eq_true_eq]
    constructor
    · intro hk
      obtain ⟨t, ht⟩ := b1_has k hk
      exact ⟨(k, .int k t), by simpa using ht, (show Value.isInt k (.int k t) = true by simp [Value.isInt])⟩
    · rintro ⟨x, hx, hi⟩
      obtain ⟨k', t, rfl, hm, _⟩ := b1_elem x (by simpa using hx)
      obtain ⟨u, hu⟩ := Value.isInt_shape (show Value.isInt k (.int k' t) = true from hi)
      have : k' = k := by injection hu
      exact this ▸ hm
end Mine

end
section
open PySem PySem.W PyProof.Rows PySem.Calls
set_option maxHeartbeats 4000000
namespace Mine
variable {w : World} {p : Program} {loose : List Str} {mean : ExcName → Option Value} {mg mb : Str → Option Value} {news : List (Addr × Obj)}
theorem c_b1 {x : Nat} {tx : Tok} :
    Claim w p loose mean mg mb 1 32 [.str ⟨#[x]⟩ tx] news (IsB (inB1 x) news) := by
  intro dp un gd cn cs a ccd cl outer A₀ base h₀ L m s R B F XX N T hk hd hu hret
  k_dflt cell_enter
  show wpAny _ _ (execs (_ :: _) _) _ _ _
  k_steps
  refine in_argsetI (by k_asm) (o22_set _ _ _) ((by assumption : (K w.params).In _) 22 (o22 w.params) (by kernel_rfl)) (by decide) ?_
  k_steps
  exact hret _ _ _ _ ⟨rfl, rfl⟩ (by k_asm) (by k_asm)
theorem c_c11 {x : Nat} {tx : Tok} :
    Claim w p loose mean mg mb 1 85 [.str ⟨#[x]⟩ tx] news (IsB (x == 32) news) := by
  intro dp un gd cn cs a ccd cl outer A₀ base h₀ L m s R B F XX N T hk hd hu hret
  k_dflt cell_enter
  show wpAny _ _ (execs (_ :: _) _) _ _ _
  k_steps
  exact hret _ _ _ _ ⟨by rw [one_eq x 32 _ (by decide +kernel)], rfl⟩ (by k_asm) (by k_asm)
theorem and_ffff (x : Nat) : Builtin.bitAnd (x : Int) 65535 = ((x % 65536 : Nat) : Int) := by
  unfold Builtin.bitAnd
  rw [decide_eq_true (Int.natCast_nonneg x), decide_eq_true (by decide : (0 : Int) ≤ 65535)]
  show (((x : Int).toNat &&& (65535 : Int).toNat : Nat) : Int) = _
  rw [Int.toNat_natCast, show (65535 : Int).toNat = 2 ^ 16 - 1 from rfl, Nat.and_two_pow_sub_one_eq_mod]
noncomputable def inC4 (x : Nat) : Bool := if x < 64976 then false else if x < 65008 then true else (x % 65536 == 65534 || x % 65536 == 65535)
theorem c_c4 {x : Nat} {tx : Tok} (hx : x < 1114112 := by assumption) :
    Claim w p loose mean mg mb 1 92 [.str ⟨#[x]⟩ tx] news (IsB (inC4 x) news) := by
  intro dp un gd cn cs a ccd cl outer A₀ base h₀ L m s R B F XX N T hk hd hu hret
  k_dflt cell_enter
  show wpAny _ _ (execs (_ :: _) _) _ _ _
  k_steps
  · have g := (by assumption : (x : Int) < 64976)
    exact hret _ _ _ _ ⟨by unfold inC4; rw [if_pos (by omega)], rfl⟩ (by k_asm) (by k_asm)
  · have g := (by assumption : (x : Int) < 65008)
    have g2 := (by assumption : ¬ (x : Int) < 64976)
    exact hret _ _ _ _ ⟨by unfold inC4; rw [if_neg (by omega), if_pos (by omega)], rfl⟩ (by k_asm) (by k_asm)
  · have g := (by assumption : ¬ (x : Int) < 65008)
    rename News _ _ _ _ => N9
    refine hret _ _ _ _ ⟨?_, rfl⟩ (by k_asm) (fun q hq => N9 q (by repeat (first | exact hq | refine .tail _ ?_)))
    unfold inC4
    rw [if_neg (by omega), if_neg (by omega), and_ffff]
    congr 1
    generalize x % 65536 = y
    by_cases h1 : y = 65534
    · subst h1; rfl
    · by_cases h2 : y = 65535
      · subst h2; rfl
      · rw [beq_eq_false_iff_ne.mpr h1, beq_eq_false_iff_ne.mpr h2]
        show ((65534 : Int) == (y : Int) || ((65535 : Int) == (y : Int) || false)) = _
        rw [beq_eq_false_iff_ne.mpr (by omega), beq_eq_false_iff_ne.mpr (by omega)]
        rfl

end Mine
end
theorem Mine.look10 : True := by first | (walk1; fail) | trivial
section
open PySem PySem.W PySem.Builtin
namespace Mine
noncomputable def cmpN (m n : Nat) : Ordering := if m < n then .lt else if m = n then .eq else .gt
noncomputable def cmpW (u v : List UInt8) : Ordering := if u.length < v.length then .lt else if v.length < u.length then .gt else Bytes.order u v
theorem order_app : ∀ (u v : List UInt8) (a b : UInt8), u.length = v.length → Bytes.order (u ++ [a]) (v ++ [b]) = (Bytes.order u v).then (if a < b then .lt else if a > b then .gt else .eq)
  | [], [], a, b, _ => by
    simp only [List.nil_append, Bytes.order]
    rfl
  | [], _ :: _, _, _, h => by simp at h
  | _ :: _, [], _, _, h => by simp at h
  | x :: u, y :: v, a, b, h => by
    simp only [List.cons_append, Bytes.order]
    by_cases h1 : x < y
    · rw [if_pos h1, if_pos h1]; rfl
    · rw [if_neg h1, if_neg h1]
      by_cases h2 : x > y
      · rw [if_pos h2, if_pos h2]; rfl
      · rw [if_neg h2, if_neg h2]
        exact order_app u v a b (by simpa using h)
theorem cmpW_app (u v : List UInt8) (a b : UInt8) : cmpW (u ++ [a]) (v ++ [b]) = (cmpW u v).then (if a < b then .lt else if a > b then .gt else .eq) := by
  unfold cmpW
  simp only [List.length_append, List.length_singleton, Nat.add_lt_add_iff_right]
  by_cases h1 : u.length < v.length
  · rw [if_pos h1, if_pos h1]; rfl
  · rw [if_neg h1, if_neg h1]
    by_cases h2 : v.length < u.length
    · rw [if_pos h2, if_pos h2]; rfl
    · rw [if_neg h2, if_neg h2]
      exact order_app u v a b (by omega)
theorem digit_cmp (i j : Nat) (hi : i < 16) (hj : j < 16) : (if UInt8.ofNat (65 + i) < UInt8.ofNat (65 + j) then Ordering.lt else if UInt8.ofNat (65 + i) > UInt8.ofNat (65 + j) then .gt else .eq) = cmpN i j :=
  (by decide +kernel : ∀ i j : Fin 16, (if UInt8.ofNat (65 + i.1) < UInt8.ofNat (65 + j.1) then Ordering.lt else if UInt8.ofNat (65 + i.1) > UInt8.ofNat (65 + j.1) then .gt else .eq) = cmpN i.1 j.1) ⟨i, hi⟩ ⟨j, hj⟩
theorem compare_div (m n : Nat) : cmpN m n = (cmpN (m / 16) (n / 16)).then (cmpN (m % 16) (n % 16)) := by
  unfold cmpN
  by_cases h1 : m / 16 < n / 16
  · rw [if_pos h1, if_pos (by omega)]; rfl
  · by_cases h2 : m / 16 = n / 16
    · rw [if_neg h1, if_pos h2]
      show _ = if m % 16 < n % 16 then Ordering.lt else if m % 16 = n % 16 then Ordering.eq else Ordering.gt
      by_cases h3 : m % 16 < n % 16
      · rw [if_pos h3, if_pos (by omega)]
      · by_cases h4 : m % 16 = n % 16
        · rw [if_neg h3, if_pos h4, if_neg (by omega), if_pos (by omega)]
        · rw [if_neg h3, if_neg h4, if_neg (by omega), if_neg (by omega)]
    · rw [if_neg h1, if_neg h2, if_neg (by omega), if_neg (by omega)]; rfl
theorem cmpW_word : ∀ m n : Nat, cmpW (wordOf m) (wordOf n) = cmpN m n := by
  intro m
  induction m using Nat.strongRecOn with
  | ind m ih =>
    intro n
    by_cases hm : m = 0
    · by_cases hn : n = 0
      · subst hm hn; decide
      · subst hm
        rw [wordOf_pos hn, wordOf_zero, cmpN, if_pos (by omega)]
        unfold cmpW
        rw [if_pos (by simp)]
    · by_cases hn : n = 0
      · subst hn
        rw [wordOf_pos hm, wordOf_zero, cmpN, if_neg (by omega), if_neg (by omega)]
        unfold cmpW
        rw [if_neg (by simp), if_pos (by simp)]
      · rw [wordOf_pos hm, wordOf_pos hn, cmpW_app, ih (m / 16) (by omega), digit_cmp _ _ (Nat.mod_lt _ (by decide)) (Nat.mod_lt _ (by decide)), ← compare_div]
theorem pairGt_word (m n : Nat) : pairGt (wordOf m).length (wordOf n).length (wordOf m) (wordOf n) = decide (n < m) := by
  have h := cmpW_word m n
  unfold cmpN at h
  unfold pairGt
  unfold cmpW at h
  by_cases h1 : (wordOf m).length < (wordOf n).length
  · rw [if_pos h1] at h
    rw [if_neg (by omega)]
    have : m < n := by
      by_cases h2 : m < n
      · exact h2
      · rw [if_neg h2] at h
        by_cases h3 : m = n
        · rw [if_pos h3] at h; cases h
        · rw [if_neg h3] at h; cases h
    rw [decide_eq_false (by omega), decide_eq_false (by omega)]
  · by_cases h2 : (wordOf n).length < (wordOf m).length
    · rw [if_neg h1, if_pos h2] at h
      rw [if_neg (by omega)]
      have : n < m := by
        by_cases h2 : m < n
        · rw [if_pos h2] at h; cases h
        · rw [if_neg h2] at h
          by_cases h3 : m = n
          · rw [if_pos h3] at h; cases h
          · omega
      rw [decide_eq_true (by omega), decide_eq_true (by omega)]
    · rw [if_neg h1, if_neg h2] at h
      rw [if_pos (by omega), h]
      by_cases h2 : m < n
      · rw [if_pos h2, decide_eq_false (by omega)]; rfl
      · rw [if_neg h2]
        by_cases h3 : m = n
        · rw [if_pos h3, decide_eq_false (by omega)]; rfl
        · rw [if_neg h3, decide_eq_true (by omega)]; rfl
end Mine

end
section
open PySem PySem.W PyProof.Rows PySem.Calls
set_option maxHeartbeats 4000000
namespace Mine
variable {w : World} {p : Program} {loose : List Str} {mean : ExcName → Option Value} {mg mb : Str → Option Value} {news : List (Addr × Obj)}
local macro_rules | `(tactic| walk_at "compareOp Gt ref ref") => `(tactic| (k_here; refine gt_pair ?_))
theorem c_gt {x y : Nat} {t1 t2 t3 t4 : Tok} {a1 a2 : Addr} :
    Claim w p loose mean mg mb 2 148 [.ref a1, .ref a2] ((a2, { cls := .type "tuple", data := .seq #[.int (wordOf y).length t3, .bytes (wordOf y).toArray t4] }) :: (a1, { cls := .type "tuple", data := .seq #[.int (wordOf x).length t1, .bytes (wordOf x).toArray t2] }) :: news)
      (IsB (decide (y < x)) ((a2, { cls := .type "tuple", data := .seq #[.int (wordOf y).length t3, .bytes (wordOf y).toArray t4] }) :: (a1, { cls := .type "tuple", data := .seq #[.int (wordOf x).length t1, .bytes (wordOf x).toArray t2] }) :: news)) := by
  intro dp un gd cn cs a ccd cl outer A₀ base h₀ L m s R B F XX N T hk hd hu hret
  k_dflt cell_enter
  show wpAny _ _ (execs (_ :: _) _) _ _ _
  k_steps
  rw [pairGt_word]
  exact hret _ _ _ _ ⟨rfl, rfl⟩ (by k_asm) (by k_asm)

end Mine
end
theorem Mine.look11 : True := by first | (walk1; fail) | trivial
section
open PySem PySem.W PyProof.Rows PySem.Calls
set_option maxHeartbeats 4000000
namespace Mine
variable {w : World} {p : Program} {loose : List Str} {mean : ExcName → Option Value} {mg mb : Str → Option Value} {news : List (Addr × Obj)}
theorem c_pop (X : Lx) (hX : X.Ok) (pos line : Int) (tp tl : Tok) (v : Value) (vs : List Value) (np : Nat) (rest : Led) (hr : Apart X rest) (hv : vs.length < 10) :
    Claim w p loose mean mg mb 6 127 [.ref X.x] (lexLed w X pos line tp tl (v :: vs).toArray np rest) (fun r n' => r = v ∧ ∃ np', n' = lexLed w X pos line tp tl vs.toArray np' rest) := by
  intro dp un gd cn cs a ccd cl outer A₀ base h₀ L m s R B F XX N T hk hd hu hret
  have hcode : CodeHd h₀ 196 192 := codeHd_of_K XX (by kernel_rfl)
  obtain ⟨x1, x2, x3, x4, o1, o2, o3, o4, o5, o6, o7, o8, o9⟩ := id hX
  obtain ⟨r1, r2, r3⟩ := id hr
  dsimp only [lexLed] at N
  k_dflt cell_enter
  have hcode2 : CodeHd _ 196 192 := codeHd_of_K (by assumption) (by kernel_rfl)
  show wpAny _ _ (execs (_ :: _) _) _ _ _
  k_steps
  rename Fr _ _ _ _ => F9
  rename News _ _ _ _ => N9
  refine' kl_popAt (its := (v :: vs).toArray) (p := []) (y := v) (q := vs) (k := 0) F9 N9 (by rfl) (by simp [seqIndex?]) (by simp [kl_cut]) ?U ?z ?_
  case U => k_upd
  case z => (rw [sizeLine_eq]; simp; omega)
  intro h2 F2 N2
  k_steps
  exact hret _ _ _ _ ⟨rfl, _, rfl⟩ (by k_asm) (by k_asm)
theorem c_push (X : Lx) (hX : X.Ok) (pos line : Int) (tp tl : Tok) (v : Value) (vs : List Value) (np : Nat) (rest : Led) (hr : Apart X rest) (hv : vs.length < 10) :
    Claim w p loose mean mg mb 6 134 [.ref X.x, v] (lexLed w X pos line tp tl vs.toArray np rest) (fun r n' => r = .none ∧ ∃ np', n' = lexLed w X pos line tp tl (vs ++ [v]).toArray np' rest) := by
  intro dp un gd cn cs a ccd cl outer A₀ base h₀ L m s R B F XX N T hk hd hu hret
  have hcode : CodeHd h₀ 196 192 := codeHd_of_K XX (by kernel_rfl)
  obtain ⟨x1, x2, x3, x4, o1, o2, o3, o4, o5, o6, o7, o8, o9⟩ := id hX
  obtain ⟨r1, r2, r3⟩ := id hr
  dsimp only [lexLed] at N
  k_dflt cell_enter
  have hcode2 : CodeHd _ 196 192 := codeHd_of_K (by assumption) (by kernel_rfl)
  show wpAny _ _ (execs (_ :: _) _) _ _ _
  k_steps
  rename News _ _ _ _ => N9
  rw [List.push_toArray] at N9
  exact hret _ _ _ _ ⟨rfl, _, rfl⟩ (by k_asm) N9

end Mine
end
theorem Mine.look12 : True := by first | (walk1; fail) | trivial
section
open PySem PySem.W PyProof.Rows PySem.Calls
set_option maxHeartbeats 4000000
namespace Mine
variable {w : World} {p : Program} {loose : List Str} {mean : ExcName → Option Value} {mg mb : Str → Option Value} {news : List (Addr × Obj)}
theorem in_quot {X : Lx} (hX : X.Ok) (hl : X.cs.length ≤ 10000) {np : Nat} {rest : Led} (hr : Apart X rest) {it mo : Nat} {ts : Tok} (hit : X.lp < it) (hmo : X.lp < mo) (him : it ≠ mo) (hri : ∀ q ∈ rest, q.1 ≠ it)
    {dp un : Nat} {gd : Option (List Code)} {cn : Str} {cs : Scope} {a : Addr} {ccd : Value} {cl : List (Str × Addr)} {outer : List Env} {A₀ : Around} {base g : Heap} {L L₀ : Addr} {s s₀ : Shared}
    (B : Below A₀ base (envX cn cs L₀ a ccd cl :: outer) g) (XX : (K w.params).In g) (T : Top p loose mean mg mb g) (hd : dp + 6 < recursionLimit) (hu : un + 10 * 6 < cLine)
    {res : List Nat × List Nat} {n : Nat} (I : InInv quotTok w X res np rest it mo ts g L s₀ n s) {Q : Flow → Shared → Prop} {E : Value → Shared → Prop}
    (hE : PassesOwn (model Pw w) ((ktrTop dp un gd cn cs L₀ a ccd cl outer).deeper (gtEnv L)) (gtEnv L) E)
    (hn : ∀ h tk m₁ t tp tl, Fr g L h m₁ → News g L h (tokLed w X [] tp tl #[] np it mo itDone rest) → m₁ "self" = some (.ref X.x) → m₁ "fiter" = some (.ref it) → m₁ "token" = some (.str ⟨res.1.toArray⟩ t) → res.2 = [] → Q .next { s₀ with heap := h, toks := tk })
    (hret : ∀ h tk m₁ t tp tl, Fr g L h m₁ → News g L h (tokLed w X res.2 tp tl #[] np it mo (itOf mo ts) rest) → Q (.ret (.str ⟨res.1.toArray⟩ t)) { s₀ with heap := h, toks := tk }) :
    wpAny (model Pw w) ((ktrTop dp un gd cn cs L₀ a ccd cl outer).deeper (gtEnv L)) (exec gtQuot (gtEnv L)) Q E s := by
  have hcode : CodeHd g 196 192 := codeHd_of_K XX (by kernel_rfl)
  obtain ⟨x1, x2, x3, x4, o1, o2, o3, o4, o5, o6, o7, o8, o9⟩ := id hX
  obtain ⟨r1, r2, r3⟩ := id hr
  have hr' : Apart X ((it, itOf mo ts) :: (mo, methodObj (.ref 120) (.ref X.x)) :: rest) := Apart.up hX (q := (it, _)) (Apart.up hX (q := (mo, _)) hr hmo) hit
  refine for_inv (it := it) (InInv quotTok w X res np rest it mo ts g L s₀) n ?_ ?_ (hE := hE)
  · obtain ⟨h', tk', m₁, t, tok, rem, tp, tl, rfl, F', N', e1, e2, hs', rfl, e3, e4, e5⟩ := I
    dsimp only [gtEnv, gtScope]
    k_steps
    · exact ⟨_, (N' (it, itOf mo ts) tok_it).1, rfl⟩
    exact ⟨_, _, _, _, _, rem, _, _, rfl, F', N', e1, e2, hs', rfl, e3, e4, e5⟩
  · clear I
    rintro k s' ⟨h', tk', m₁, t, tok, rem, tp, tl, rfl, F', N', e1, e2, hs', rfl, e3, e4, e5⟩
    refine next_rd (dp := dp + 1) (un := un + 3) (s := { s₀ with heap := h', toks := tk' }) (L := L) hX hs' hl hr hit hmo him hri B F' XX N' T rfl (by omega) (by omega) ?_ ?_
    · rintro c r rfl h' tk' t' tp' tl' F' N'
      dsimp only
      dsimp only [gtEnv, gtScope] at F' N' ⊢
      dsimp only [tokLed, lexLed] at N'
      walk1
      k_fold
      k_steps
      · rename (BEq.beq _ (Str.ofString "\"")) = _ => w9
        rename Fr _ _ _ _ => F2
        rename News _ _ _ _ => N2
        rw [one_eq c 34 _ (by decide +kernel), beq_iff_eq] at w9
        obtain rfl : res = (tok, r) := by rw [← e4, quotTok_cons, if_pos w9]
        exact hret _ _ _ _ _ _ F2 N2
      · rename (BEq.beq _ (Str.ofString "\"")) = _ => w9
        rename (BEq.beq _ (Str.ofString "\\")) = _ => w8
        rename Fr _ _ _ _ => F2
        rename News _ _ _ _ => N2
        rw [one_eq c 34 _ (by decide +kernel), beq_eq_false_iff_ne] at w9
        rw [one_eq c 92 _ (by decide +kernel), beq_iff_eq] at w8
        subst w8
        rw [quotTok_cons, if_neg w9, if_pos rfl] at e4
        refine Claim.use (dp := dp + 1) (un := un + 3) (c_rd X hX r (List.suffix_cons .. |>.trans hs') hl _ _ _ _ _ hr') B F2 XX N2 T rfl (by omega) (by omega) ?_
        rintro v n' h2 tk2 ⟨⟨t2, rfl⟩, tp2, tl2, rfl⟩ F3 N3
        dsimp only [lexLed] at F3 N3 ⊢
        have hfit : ((⟨tok.toArray⟩ : Str).length + (chS r).length : Nat) ≤ 10001 := by
          have : (chS r).length ≤ 1 := by
            cases r with
            | nil => exact Nat.zero_le 1
            | cons c r => exact Nat.le_refl 1
          have : (⟨tok.toArray⟩ : Str).length = tok.length := by simp [Str.length]
          simp only [List.length_cons] at e5
          omega
        k_steps
        rename Fr _ _ _ _ => F4
        rename News _ _ _ _ => N4
        rw [app_chS] at F4
        refine ⟨r.tail.length, by simp only [List.length_tail, List.length_cons]; omega, _, _, _, _, tok ++ r.take 1, r.tail, _, _, rfl, F4, N4, by with_unfolding_all exact e1, by with_unfolding_all exact e2, ((List.tail_suffix r).trans ((List.suffix_cons ..).trans hs')), rfl, by with_unfolding_all rfl, e4, ?_⟩
        · simp only [List.length_cons, List.length_append, List.length_tail, List.length_take] at e5 ⊢; omega
      · rename (BEq.beq _ (Str.ofString "\"")) = _ => w9
        rename (BEq.beq _ (Str.ofString "\\")) = _ => w8
        rename Fr _ _ _ _ => F2
        rename News _ _ _ _ => N2
        rw [one_eq c 34 _ (by decide +kernel), beq_eq_false_iff_ne] at w9
        rw [one_eq c 92 _ (by decide +kernel), beq_eq_false_iff_ne] at w8
        rw [quotTok_cons, if_neg w9, if_neg w8] at e4
        rw [app_one] at F2
        refine ⟨r.length, Nat.lt_succ_self _, _, _, _, _, tok ++ [c], r, _, _, rfl, F2, N2, by with_unfolding_all exact e1, by with_unfolding_all exact e2, (List.suffix_cons .. |>.trans hs'), rfl, by with_unfolding_all rfl, e4, by simp only [List.length_cons, List.length_append, List.length_nil] at e5 ⊢; omega⟩
    · rintro rfl h' tk' tp' tl' F' N'
      obtain rfl : res = (tok, []) := by rw [← e4]; rfl
      exact hn _ _ _ _ _ _ F' N' e1 e2 e3 rfl

end Mine
end
theorem Mine.look13 : True := by first | (walk1; fail) | trivial
section
open PySem PySem.W PyProof.Rows PySem.Calls
set_option maxHeartbeats 4000000
namespace Mine
variable {w : World} {p : Program} {loose : List Str} {mean : ExcName → Option Value} {mg mb : Str → Option Value} {news : List (Addr × Obj)}
local macro_rules | `(tactic| walk_at "eval ListComp") => `(tactic| (k_here; k_dflt (refine ListComp_H (h := ?_))))
local macro_rules | `(tactic| walk_at "exec Assign cons ListComp") => `(tactic| (k_here; k_dflt (refine Assign_ListComp_H (h := ?_))))
section
variable {dp un : Nat} {gd : Option (List Code)} {cn : Str} {cs : Scope} {a : Addr} {ccd : Value} {cl : List (Str × Addr)} {outer : List Env} {A₀ : Around} {base g : Heap} {L : Nat} {L₀ : Addr} {s s' : Shared}
open LCg in
theorem pop_four (B : Below A₀ base (envX cn cs L₀ a ccd cl :: outer) g) (XX : (K w.params).In g) (T : Top p loose mean mg mb g) (hd : dp + 12 < recursionLimit) (hu : un + 10 * 12 < cLine)
    {X : Lx} (hX : X.Ok) {pos line : Int} {tp tl : Tok} {np : Nat} {oc ol : Obj} {rest : Led} (hxL : @LT.lt Nat _ X.lp L) (hr : Apart X rest) {v1 v2 v3 v4 : Value}
    {h : Heap} {tk : Nat} {m : Str → Option Value} (F : Fr g L h m) (N : News g L h (rsLed w X pos line tp tl #[v1, v2, v3, v4] np L oc ol rest)) (c1 : ol.data = .cell (some (.ref X.x)))
    {Q : Flow → Shared → Prop} {E : Value → Shared → Prop}
    (hE : PassesOwn (model Pw w) ((ktrTop dp un gd cn cs L₀ a ccd cl outer).deeper (rsEnv L)) (rsEnv L) E)
    (hQ : ∀ h tk np' D, Fr g L h (fun z => if z = Str.ofString "four" then some (.ref D) else m z) → News g L h (rsLed w X pos line tp tl #[] np' L oc ol ((D, listOf #[v1, v2, v3, v4] 4) :: rest)) → Apart X ((D, listOf #[v1, v2, v3, v4] 4) :: rest) → (∀ q ∈ rsLed w X pos line tp tl #[] np' L oc ol rest, @Ne Nat q.1 D) → Q .next { s with heap := h, toks := tk }) :
    wpAny (model Pw w) ((ktrTop dp un gd cn cs L₀ a ccd cl outer).deeper (rsEnv L)) (exec rb0.1 (rsEnv L)) Q E { s with heap := h, toks := tk } := by
  dsimp only [rsEnv, rsScope, rb0]
  k_steps
  rename News _ _ _ _ => N9
  rename Fr _ _ _ _ => F9
  rename IsRange _ _ _ _ _ _ _ _ => hr'
  refine CompSrcH.mk (CompSrc.range rfl F9 N9 hr' (by decide) (n := 4) rfl (by size_fits) fun gg => ?_)
  refine comp_go (n := 4) (fun k rs news' => ∃ np', news' = rsLed w X pos line tp tl (([v1, v2, v3, v4].drop k).toArray) np' L oc ol rest ∧ rs = [v1, v2, v3, v4].take k) ?_ ?_ 4 0 [] _ (by omega) ⟨np, rfl, rfl⟩
  · rintro k v rs news' I oI C oC D m₂ h' tk' E' hk ⟨np', rfl, rfl⟩ ⟨t, rfl⟩ hC hx F' N' off ne
    rw [Int.zero_add] at hx
    clear F9 N9
    dsimp only [rsLed, lexLed] at N'
    k_steps
    show wpAny _ _ (call (.ref 127) [.ref X.x]) qk ek _
    have offm := off.mem
    have a1 : Apart X ((I, oI) :: (C, oC) :: (D, lst (List.take k [v1, v2, v3, v4])) :: (L + 1 + 1, oc) :: (L + 1, ol) :: rest) :=
      Apart.off (q := (I, oI)) (Apart.off (q := (C, oC)) (Apart.off (q := (D, lst (List.take k [v1, v2, v3, v4]))) (rs_apart hX hr hxL) (fun p hp => (offm p hp).2.2)) (fun p hp => (offm p hp).2.1)) (fun p hp => (offm p hp).1)
    obtain ⟨v, hv⟩ : ∃ v, [v1, v2, v3, v4][k]? = some v := ⟨_, List.getElem?_eq_getElem (by simpa using hk)⟩
    have hdr : [v1, v2, v3, v4].drop k = v :: [v1, v2, v3, v4].drop (k + 1) := by
      rw [List.drop_eq_getElem_cons (by simpa using hk)]
      congr 1
      rw [List.getElem?_eq_getElem (by simpa using hk)] at hv
      exact Option.some.inj hv
    have htk : [v1, v2, v3, v4].take (k + 1) = [v1, v2, v3, v4].take k ++ [v] := by rw [List.take_add_one, hv]; rfl
    rw [hdr] at N'
    refine Claim.use (dp := dp + 1) (un := un + 3) (c_pop X hX pos line tp tl v ([v1, v2, v3, v4].drop (k + 1)) np' _ a1 (by rw [List.length_drop]; simp; omega)) B F' XX (fun p hp => N' p ?_) T rfl (by omega) (by omega) ?_
    · have h1 := lex_in hp
      rcases List.mem_cons.mp h1 with rfl | h1
      · exact .head _
      have h1 := lex_in h1
      rcases List.mem_cons.mp h1 with rfl | h1
      · exact .tail _ (.head _)
      exact .tail _ (.tail _ (lex_in h1))
    · rintro r n' h2 tk2 ⟨rfl, np2, rfl⟩ F2 N2
      refine CompEnd.intro F2 N2 (rsLed w X pos line tp tl (([v1, v2, v3, v4].drop (k + 1)).toArray) np2 L oc ol rest) (fun p hp => ?_) (Off3.of fun p hp => ?_) trivial ⟨np2, rfl, htk.symm⟩
      · rcases List.mem_cons.mp hp with rfl | hp
        · exact lex_out (.head _)
        rcases List.mem_cons.mp hp with rfl | hp
        · exact lex_out (.tail _ (lex_out (.head _)))
        rcases List.mem_cons.mp hp with rfl | hp
        · exact lex_out (.tail _ (lex_out (.tail _ (lex_out (.head _)))))
        · exact lex_out (.tail _ (lex_out (.tail _ (lex_out (.tail _ hp)))))
      · rcases List.mem_cons.mp hp with rfl | hp
        · exact offm (X.lp, listOf (List.toArray ([v1, v2, v3, v4].drop k)) np') (.head _)
        · exact offm p (.tail _ hp)
  · rintro rs news' ⟨np', rfl, rfl⟩ D h' tk' F' N' off
    dsimp only
    have offm := off1_mem off
    refine hQ h' tk' np' D F' (fun p hp => N' p ?_) (Apart.off (q := (D, _)) hr offm) offm
    · exact three_in (P := lexLed w X pos line tp tl #[] np' []) hp
end

end Mine
end
theorem Mine.look14 : True := by first | (walk1; fail) | trivial
section
open PySem PySem.W PyProof.Rows PySem.Calls
set_option maxHeartbeats 4000000
namespace Mine
variable {w : World} {p : Program} {loose : List Str} {mean : ExcName → Option Value} {mg mb : Str → Option Value} {news : List (Addr × Obj)}
section
variable {dp un : Nat} {gd : Option (List Code)} {cn : Str} {cs : Scope} {a : Addr} {ccd : Value} {cl : List (Str × Addr)} {outer : List Env} {A₀ : Around} {base g : Heap} {L : Nat} {L₀ : Addr} {s s' : Shared}
theorem push_start (B : Below A₀ base (envX cn cs L₀ a ccd cl :: outer) g) (XX : (K w.params).In g) (T : Top p loose mean mg mb g) (hd : dp + 12 < recursionLimit) (hu : un + 10 * 12 < cLine)
    {X : Lx} (hX : X.Ok) {pos line : Int} {tp tl : Tok} {np : Nat} {oc ol : Obj} {rest : Led} (hxL : @LT.lt Nat _ X.lp L) (hr : Apart X rest) {sa : Addr} {ss : List Value} {ns : Nat} (hm : (sa, listOf (List.toArray ss) ns) ∈ rest) (hs6 : ss.length ≤ 6)
    {h : Heap} {tk : Nat} {m : Str → Option Value} (F : Fr g L h m) (N : News g L h (rsLed w X pos line tp tl #[] np L oc ol rest)) (c1 : ol.data = .cell (some (.ref X.x))) (e1 : m (Str.ofString "start") = some (.ref sa))
    {Q : Flow → Shared → Prop} {E : Value → Shared → Prop}
    (hE : PassesOwn (model Pw w) ((ktrTop dp un gd cn cs L₀ a ccd cl outer).deeper (rsEnv L)) (rsEnv L) E)
    (hQ : ∀ h tk m' np', Fr g L h m' → News g L h (rsLed w X pos line tp tl ss.toArray np' L oc ol rest) → (∀ z, z ≠ Str.ofString "place" → m' z = m z) → Q .next { s with heap := h, toks := tk }) :
    wpAny (model Pw w) ((ktrTop dp un gd cn cs L₀ a ccd cl outer).deeper (rsEnv L)) (exec rs0.1 (rsEnv L)) Q E { s with heap := h, toks := tk } := by
  dsimp only [rsEnv, rsScope, rs0]
  refine for_led (s₀ := s) (h₀ := g) (fun k m' led => ∃ np', led = rsLed w X pos line tp tl (ss.take k).toArray np' L oc ol rest ∧ ∀ z, z ≠ Str.ofString "place" → m' z = m z) ss.length (fun i v => ss.toArray[i]? = some v) ?_ ?_ ?_ (hE := hE)
  · k_steps
    refine ready_list (items := ss.toArray) _ rfl (News.isList N (rs_mem hm)) F N ⟨np, rfl, fun _ _ => rfl⟩ ⟨rfl, rfl, rfl⟩ ?_
    rintro k m led h ⟨np', rfl, _⟩ F N
    exact News.isList N (rs_mem hm)
  rotate_left
  · rintro m₁ led hh tkk ⟨np', rfl, hmm⟩ F1 N1
    rw [List.take_length] at N1
    exact hQ _ _ _ _ F1 N1 hmm
  rintro k v m₁ led hh tkk I₁ o₁ hk hv ⟨np', rfl, hmm⟩ F1 N1 hI1
  dsimp only [rsLed, lexLed] at N1
  k_steps
  refine Claim.use (dp := dp + 1) (un := un + 3) (c_push X hX pos line tp tl v (ss.take k) _ _ (Apart.off (q := (I₁, o₁)) (rs_apart hX hr hxL) hI1) (by rw [List.length_take]; omega)) B F1 XX (fun p hp => N1 p (lex_in hp)) T rfl (by omega) (by omega) ?_
  rintro r n' h2 tk2 ⟨rfl, np2, rfl⟩ F2 N2
  k_steps
  dsimp only
  have hv' : ss[k]? = some v := by rw [← List.getElem?_toArray]; exact hv
  have htk : ss.take (k + 1) = ss.take k ++ [v] := by rw [List.take_add_one, hv']; rfl
  refine ⟨_, _, _, _, rfl, F2, fun p hp => N2 p (lex_out hp), ?_, np2, by rw [htk], fun z hz => ?_⟩
  · intro q hq
    obtain ⟨o, ho⟩ := lex_same (pos' := pos) (line' := line) (tp' := tp) (tl' := tl) (push' := (ss.take k).toArray) (np' := np') hq
    exact hI1 (q.1, o) ho
  · show (if z = Str.ofString "place" then _ else _) = _
    rw [if_neg hz]; exact hmm z hz
theorem push_four (B : Below A₀ base (envX cn cs L₀ a ccd cl :: outer) g) (XX : (K w.params).In g) (T : Top p loose mean mg mb g) (hd : dp + 12 < recursionLimit) (hu : un + 10 * 12 < cLine)
    {X : Lx} (hX : X.Ok) {pos line : Int} {tp tl : Tok} {np : Nat} {oc ol : Obj} {rest : Led} (hxL : @LT.lt Nat _ X.lp L) (hr : Apart X rest) {sa : Addr} {ss : List Value} {ns : Nat} (hm : (sa, listOf (List.toArray ss) ns) ∈ rest) (hs6 : ss.length ≤ 6)
    {h : Heap} {tk : Nat} {m : Str → Option Value} (F : Fr g L h m) (N : News g L h (rsLed w X pos line tp tl #[] np L oc ol rest)) (c1 : ol.data = .cell (some (.ref X.x))) (e1 : m (Str.ofString "four") = some (.ref sa))
    {Q : Flow → Shared → Prop} {E : Value → Shared → Prop}
    (hE : PassesOwn (model Pw w) ((ktrTop dp un gd cn cs L₀ a ccd cl outer).deeper (rsEnv L)) (rsEnv L) E)
    (hQ : ∀ h tk m' np', Fr g L h m' → News g L h (rsLed w X pos line tp tl ss.toArray np' L oc ol rest) → (∀ z, z ≠ Str.ofString "place" → m' z = m z) → Q .next { s with heap := h, toks := tk }) :
    wpAny (model Pw w) ((ktrTop dp un gd cn cs L₀ a ccd cl outer).deeper (rsEnv L)) (exec rb8.1 (rsEnv L)) Q E { s with heap := h, toks := tk } := by
  dsimp only [rsEnv, rsScope, rb8]
  refine for_led (s₀ := s) (h₀ := g) (fun k m' led => ∃ np', led = rsLed w X pos line tp tl (ss.take k).toArray np' L oc ol rest ∧ ∀ z, z ≠ Str.ofString "place" → m' z = m z) ss.length (fun i v => ss.toArray[i]? = some v) ?_ ?_ ?_ (hE := hE)
  · k_steps
    refine ready_list (items := ss.toArray) _ rfl (News.isList N (rs_mem hm)) F N ⟨np, rfl, fun _ _ => rfl⟩ ⟨rfl, rfl, rfl⟩ ?_
    rintro k m led h ⟨np', rfl, _⟩ F N
    exact News.isList N (rs_mem hm)
  rotate_left
  · rintro m₁ led hh tkk ⟨np', rfl, hmm⟩ F1 N1
    rw [List.take_length] at N1
    exact hQ _ _ _ _ F1 N1 hmm
  rintro k v m₁ led hh tkk I₁ o₁ hk hv ⟨np', rfl, hmm⟩ F1 N1 hI1
  dsimp only [rsLed, lexLed] at N1
  k_steps
  refine Claim.use (dp := dp + 1) (un := un + 3) (c_push X hX pos line tp tl v (ss.take k) _ _ (Apart.off (q := (I₁, o₁)) (rs_apart hX hr hxL) hI1) (by rw [List.length_take]; omega)) B F1 XX (fun p hp => N1 p (lex_in hp)) T rfl (by omega) (by omega) ?_
  rintro r n' h2 tk2 ⟨rfl, np2, rfl⟩ F2 N2
  k_steps
  dsimp only
  have hv' : ss[k]? = some v := by rw [← List.getElem?_toArray]; exact hv
  have htk : ss.take (k + 1) = ss.take k ++ [v] := by rw [List.take_add_one, hv']; rfl
  refine ⟨_, _, _, _, rfl, F2, fun p hp => N2 p (lex_out hp), ?_, np2, by rw [htk], fun z hz => ?_⟩
  · intro q hq
    obtain ⟨o, ho⟩ := lex_same (pos' := pos) (line' := line) (tp' := tp) (tl' := tl) (push' := (ss.take k).toArray) (np' := np') hq
    exact hI1 (q.1, o) ho
  · show (if z = Str.ofString "place" then _ else _) = _
    rw [if_neg hz]; exact hmm z hz
end

end Mine
end
theorem Mine.look15 : True := by first | (walk1; fail) | trivial
section
open PySem PySem.W PyProof.Rows PySem.Calls
set_option maxHeartbeats 4000000
namespace Mine
variable {w : World} {p : Program} {loose : List Str} {mean : ExcName → Option Value} {mg mb : Str → Option Value} {news : List (Addr × Obj)}
noncomputable def OutInv (w : World) (X : Lx) (res : List Nat × List Nat) (np : Nat) (rest : Led) (it mo : Nat) (ts : Tok) (g : Heap) (L : Addr) (s : Shared) (k : Nat) (s' : Shared) : Prop :=
  ∃ h tk m₁ t rem tp tl io, s' = { s with heap := h, toks := tk } ∧ Fr g L h m₁ ∧ News g L h (tokLed w X rem tp tl #[] np it mo io rest) ∧ m₁ "self" = some (.ref X.x) ∧ m₁ "fiter" = some (.ref it) ∧ rem <:+ X.cs ∧
    ((k = rem.length + 1 ∧ io = itOf mo ts ∧ m₁ "token" = some (.str ⟨#[]⟩ t) ∧ token rem = res) ∨ (k = 0 ∧ io = itDone ∧ rem = [] ∧ ∃ tok, m₁ "token" = some (.str ⟨tok.toArray⟩ t) ∧ res = (tok, [])))
theorem c_tok (X : Lx) (hX : X.Ok) (rem : List Nat) (hs : rem <:+ X.cs) (hl : X.cs.length ≤ 10000) (tp tl : Tok) (np : Nat) (rest : Led) (hr : Apart X rest) :
    Claim w p loose mean mg mb 6 127 [.ref X.x] (lexLed w X (X.posOf rem) (X.lineOf rem) tp tl #[] np rest) (IsRead w X ⟨(token rem).1.toArray⟩ (X.posOf (token rem).2) (X.lineOf (token rem).2) #[] np rest) := by
  intro dp un gd cn cs a ccd cl outer A₀ base h₀ L m s R B F XX N T hk hd hu hret
  have hcode : CodeHd h₀ 196 192 := codeHd_of_K XX (by kernel_rfl)
  obtain ⟨x1, x2, x3, x4, o1, o2, o3, o4, o5, o6, o7, o8, o9⟩ := id hX
  obtain ⟨r1, r2, r3⟩ := id hr
  dsimp only [lexLed] at N
  k_dflt cell_enter
  have hcode2 : CodeHd _ 196 192 := codeHd_of_K (by assumption) (by kernel_rfl)
  show wpAny _ _ (execs (_ :: _) _) _ _ _
  k_steps
  rename Fr _ _ _ _ => F9
  rename News _ _ _ _ => N9
  rename Below _ _ _ _ => B9
  rename Top _ _ _ _ _ _ => T9
  rename Frag.In _ _ => X9
  clear F N B T XX
  rename_i g9 L9 h1 tk1 FG9 low9 big9 h2 tz1 mo h3 lm h4 it li h5 tz2
  obtain ⟨m9, t9, F8, hself, hfit, htok⟩ : ∃ m9 t9, Fr g9 L9 h5 m9 ∧ m9 "self" = some (.ref X.x) ∧ m9 "fiter" = some (.ref it) ∧ m9 "token" = some (.str ⟨#[]⟩ t9) := ⟨_, tk1 + 1 + 1 + 1, F9, by kernel_rfl, by kernel_rfl, by kernel_rfl⟩
  clear F9
  obtain ⟨q1, q2, q3, q4, q5, q6, q7, q8, q9, q10, q11, q12⟩ := li
  have hrit : ∀ q ∈ rest, q.1 ≠ it := by k_all
  have hrmo : ∀ q ∈ rest, q.1 ≠ mo := by k_all
  clear low9
  obtain ⟨ts, N8⟩ : ∃ ts, News g9 L9 h5 (tokLed w X rem tp tl #[] np it mo (itOf mo ts) rest) := by
    refine ⟨?ts, ?_⟩
    rotate_left
    intro q hq
    refine N9 q ?_
    simp only [tokLed, lexLed, List.mem_cons] at hq
    rcases hq with rfl | rfl | rfl | rfl | rfl | rfl | rfl | rfl | rfl | rfl | rfl | rfl | hq
    rotate_left 10
    exact .head _
    all_goals (repeat (first | exact .head _ | exact hq | refine .tail _ ?_))
  clear N9
  have hr' : Apart X ((it, itOf mo ts) :: (mo, methodObj (.ref 120) (.ref X.x)) :: rest) := Apart.up hX (q := (it, _)) (Apart.up hX (q := (mo, _)) hr lm.1) q2
  refine for_inv (it := it) (OutInv w X (token rem) np rest it mo ts g9 L9 s) (rem.length + 1) ?_ ?_
  · k_steps
    · exact ⟨_, (N8 (it, itOf mo ts) tok_it).1, rfl⟩
    exact ⟨_, _, _, _, rem, _, _, _, rfl, F8, N8, hself, hfit, hs, .inl ⟨rfl, rfl, htok, rfl⟩⟩
  · rintro k s' ⟨h', tk', m₁, t, rem', tp', tl', io, rfl, F', N', e1, e2, hs', hcase⟩
    rcases hcase with ⟨rfl, rfl, e3, e4⟩ | ⟨rfl, rfl, rfl, tok, e3, e4⟩
    · refine next_rd (dp := dp + 1) (un := un + 3) (s := { s with heap := h', toks := tk' }) (L := L9) hX hs' hl hr q2 lm.1 (Nat.ne_of_gt q1) hrit B9 F' X9 N' T9 rfl (by omega) (by omega) ?_ ?_
      · rintro c r rfl h' tk' t' tp' tl' F' N'
        have hs2 := (List.suffix_cons c r).trans hs'
        have hlen : r.length + 1 ≤ X.cs.length := hs'.length_le
        rw [token_cons] at e4
        dsimp only
        dsimp only [tokLed, lexLed] at N'
        walk1
        k_fold
        k_steps
        · rename List.isEmpty _ = _ => w9
          rename (BEq.beq _ (Str.ofString "\"")) = _ => w8
          rename Fr _ _ _ _ => F2
          rename News _ _ _ _ => N2
          rw [ws_occ, Bool.not_eq_true'] at w9
          rw [one_eq c 34 _ (by decide +kernel), beq_iff_eq] at w8
          rw [w9, if_neg (by decide), if_pos w8] at e4
          refine in_quot hX hl hr (it := it) (mo := mo) (ts := ts) q2 lm.1 (Nat.ne_of_gt q1) hrit B9 X9 T9 (by omega) (by omega) (res := token rem) (n := r.length) (s₀ := s)
            ⟨_, _, _, _, [], r, _, _, rfl, F2, N2, by with_unfolding_all exact e1, by with_unfolding_all exact e2, hs2, rfl, by with_unfolding_all exact e3, e4, by simp only [List.length_nil]; omega⟩ (by passes_own) ?_ ?_
          · intro h tk m₁ t tp tl F4 N4 e1 e2 e3 e4
            k_steps
            exact ⟨0, Nat.succ_pos _, _, _, _, _, [], _, _, _, rfl, F4, N4, e1, e2, List.nil_suffix, .inr ⟨rfl, rfl, rfl, _, e3, by rw [← e4]⟩⟩
          · intro h tk m₁ t tp tl F4 N4
            refine leaveK_ F4 (News.lex N4) fun kF kN => hret _ _ _ _ ⟨⟨_, rfl⟩, _, _, rfl⟩ kF kN
        · rename List.isEmpty _ = _ => w9
          rename (BEq.beq _ (Str.ofString "\"")) = _ => w7
          rename (BEq.beq _ (Str.ofString "\\")) = _ => w8
          rename Fr _ _ _ _ => F2
          rename News _ _ _ _ => N2
          rw [ws_occ, Bool.not_eq_true'] at w9
          rw [one_eq c 34 _ (by decide +kernel), beq_eq_false_iff_ne] at w7
          rw [one_eq c 92 _ (by decide +kernel), beq_iff_eq] at w8
          rw [w9, if_neg (by decide), if_neg w7] at e4
          subst w8
          rw [plainTok_cons, w9, if_neg (by decide), if_pos rfl] at e4
          refine Claim.use (dp := dp + 1) (un := un + 3) (c_rd X hX r hs2 hl _ _ _ _ _ hr') B9 F2 X9 N2 T9 rfl (by omega) (by omega) ?_
          rintro v n' h2 tk2 ⟨⟨t2, rfl⟩, tp2, tl2, rfl⟩ F3 N3
          dsimp only [lexLed] at F3 N3 ⊢
          have hfit : ((Str.ofString "").length + (chS r).length : Nat) ≤ 10001 := by
            have : (chS r).length ≤ 1 := by
              cases r with
              | nil => exact Nat.zero_le 1
              | cons c r => exact Nat.le_refl 1
            rw [show (Str.ofString "").length = 0 from by decide +kernel]
            omega
          k_steps
          rename Fr _ _ _ _ => F4
          rename News _ _ _ _ => N4
          rw [app_chS, List.nil_append] at F4
          refine in_plain hX hl hr (it := it) (mo := mo) (ts := ts) q2 lm.1 (Nat.ne_of_gt q1) hrit B9 X9 T9 (by omega) (by omega) (res := token rem) (n := r.tail.length) (s₀ := s)
            ⟨_, _, _, _, [] ++ r.take 1, r.tail, _, _, rfl, F4, N4, by with_unfolding_all exact e1, by with_unfolding_all exact e2, (List.tail_suffix r).trans hs2, rfl, by with_unfolding_all rfl, e4, by simp only [List.nil_append, List.length_take, List.length_tail]; omega⟩
            (by passes_own) ?_ ?_
          · intro h tk m₁ t tp tl F4 N4 e1 e2 e3 e4
            k_steps
            exact ⟨0, Nat.succ_pos _, _, _, _, _, [], _, _, _, rfl, F4, N4, e1, e2, List.nil_suffix, .inr ⟨rfl, rfl, rfl, _, e3, by rw [← e4]⟩⟩
          · intro h tk m₁ t tp tl F4 N4
            refine leaveK_ F4 (News.lex N4) fun kF kN => hret _ _ _ _ ⟨⟨_, rfl⟩, _, _, rfl⟩ kF kN
        · rename List.isEmpty _ = _ => w9
          rename (BEq.beq _ (Str.ofString "\"")) = _ => w7
          rename (BEq.beq _ (Str.ofString "\\")) = _ => w8
          rename Fr _ _ _ _ => F4
          rename News _ _ _ _ => N4
          rw [ws_occ, Bool.not_eq_true'] at w9
          rw [one_eq c 34 _ (by decide +kernel), beq_eq_false_iff_ne] at w7
          rw [one_eq c 92 _ (by decide +kernel), beq_eq_false_iff_ne] at w8
          rw [w9, if_neg (by decide), if_neg w7] at e4
          rw [plainTok_cons, w9, if_neg (by decide), if_neg w8] at e4
          rw [app_one] at F4
          refine in_plain hX hl hr (it := it) (mo := mo) (ts := ts) q2 lm.1 (Nat.ne_of_gt q1) hrit B9 X9 T9 (by omega) (by omega) (res := token rem) (n := r.length) (s₀ := s)
            ⟨_, _, _, _, [c], r, _, _, rfl, F4, N4, by with_unfolding_all exact e1, by with_unfolding_all exact e2, hs2, rfl, by with_unfolding_all rfl, e4, by simp only [List.length_cons, List.length_nil]; omega⟩
            (by passes_own) ?_ ?_
          · intro h tk m₁ t tp tl F4 N4 e1 e2 e3 e4
            k_steps
            exact ⟨0, Nat.succ_pos _, _, _, _, _, [], _, _, _, rfl, F4, N4, e1, e2, List.nil_suffix, .inr ⟨rfl, rfl, rfl, _, e3, by rw [← e4]⟩⟩
          · intro h tk m₁ t tp tl F4 N4
            refine leaveK_ F4 (News.lex N4) fun kF kN => hret _ _ _ _ ⟨⟨_, rfl⟩, _, _, rfl⟩ kF kN
        · rename List.isEmpty _ = _ => w9
          rename Fr _ _ _ _ => F2
          rename News _ _ _ _ => N2
          rw [ws_occ, Bool.not_eq_false'] at w9
          rw [if_pos w9] at e4
          exact ⟨r.length + 1, Nat.lt_succ_self _, _, _, _, _, r, _, _, _, rfl, F2, N2, by with_unfolding_all exact e1, by with_unfolding_all exact e2, hs2, .inl ⟨rfl, rfl, by with_unfolding_all exact e3, e4⟩⟩
      · rintro rfl h' tk' tp' tl' F' N'
        dsimp only
        k_steps
        rw [token_nil] at e4
        refine leaveK_ F' (News.lex N') fun kF kN => hret _ _ _ _ ?_ kF kN
        rw [← e4]
        exact ⟨⟨_, rfl⟩, _, _, rfl⟩
    · refine next_ci_done rfl (N' (it, itDone) tok_it).1 ?_
      intro h'' kp
      have F2 : Fr g9 L9 h'' m₁ := by
        obtain ⟨oL, es, ep, hL1, hL2⟩ := F'.ns
        exact ⟨⟨oL, es, ep, kp _ _ hL1, hL2⟩, fun b x q => kp b x (F'.keep b x q), F'.above⟩
      have N2 : News g9 L9 h'' (tokLed w X [] tp' tl' #[] np it mo itDone rest) := fun q hq => ⟨kp _ _ (N' q hq).1, (N' q hq).2⟩
      dsimp only
      k_steps
      refine leaveK_ F2 (News.lex N2) fun kF kN => hret _ _ _ _ ?_ kF kN
      rw [e4]
      exact ⟨⟨_, rfl⟩, _, _, rfl⟩

end Mine
end
theorem Mine.look16 : True := by first | (walk1; fail) | trivial
section
open PySem PySem.W PyProof.Rows PySem.Calls
set_option maxHeartbeats 4000000
namespace Mine
variable {w : World} {p : Program} {loose : List Str} {mean : ExcName → Option Value} {mg mb : Str → Option Value} {news : List (Addr × Obj)}
theorem ite_bool' {o : Bool} {a b : List Nat} : (if o then a else b) = if o = true then a else b := rfl
theorem item_tupInts {prog : Program} {A : Around} {E : Value → Shared → Prop} {s : Shared} {value slice : PySem.Expr} {t : Addr} {vs : List Value} {ns : List Int} {k : Int} {u : Tok} {Q : Value → Shared → Prop} (h : ∀ u', Q (.int (ns.getD k.toNat 0) u') s) (ht : IsTup s.heap t vs.toArray := by exact ⟨_, News.get (by k_asm) (by k_mem), rfl, _, rfl⟩) (hi : IntsAre vs ns := by assumption)
    (h0 : 0 ≤ k := by omega) (h1 : k < ns.length := by (simp only [hidL, formL, List.length_cons, List.length_nil]; omega)) (h2 : k < 2 ^ 63 := by omega)
    (hs : subscripted slice false (.ref t) (.int k u) = operate [.ref t, .int k u] (getItem (.ref t) (.int k u)) := by with_unfolding_all rfl) :
    wpAny (model prog w) A (subscriptTail value slice (.ref t) (.int k u)) Q E s := by
  have hl := IntsAre.length hi
  have hlt : k.toNat < vs.length := by omega
  obtain ⟨n, u', e1, e2⟩ := IntsAre.at hi k.toNat _ (List.getElem?_eq_getElem hlt)
  refine item_tupleT ht (by omega) h2 (j := k.toNat) ?_ (List.getElem?_eq_getElem hlt) ?_ hs
  · unfold seqIndex?
    simp only [show ¬ k < 0 by omega, if_false]
    rw [if_pos (by simp; omega)]
  · rw [e1]
    have := h u'
    rw [List.getD_eq_getElem?_getD, e2] at this
    exact this
local macro_rules | `(tactic| walk_at "subscriptTail Name BinOp ref int") => `(tactic| (k_here; with_unfolding_all (refine item_tupInts ?_; k_whole); intro _))
theorem hid_bd (i : Nat) : 0 ≤ hidL.getD i 0 ∧ hidL.getD i 0 ≤ 65279 := by
  by_cases h : i < 11
  · exact (by decide : ∀ i : Fin 11, 0 ≤ hidL.getD i.1 0 ∧ hidL.getD i.1 0 ≤ 65279) ⟨i, h⟩
  · rw [List.getD_eq_getElem?_getD, List.getElem?_eq_none (by simp only [hidL, List.length_cons, List.length_nil]; omega)]; decide
theorem c4_far {r : Nat} (h : r < 66) (h2 : ¬ r < 32) : (r - 32) / 2 * 65536 + 65534 + r % 2 = (((r : Int) - 32) / 2 * 65536 + 65534 + (r : Int) % 2).toNat :=
  (by decide +kernel : ∀ r : Fin 66, ¬ r.1 < 32 → (r.1 - 32) / 2 * 65536 + 65534 + r.1 % 2 = (((r.1 : Int) - 32) / 2 * 65536 + 65534 + (r.1 : Int) % 2).toNat) ⟨r, h⟩ h2
theorem fmodN (n k : Nat) : (n : Int).fmod (k : Int) = ((n % k : Nat) : Int) := by rw [Int.fmod_eq_emod_of_nonneg _ (by omega)]; rfl
theorem fdivN (n k : Nat) : (n : Int).fdiv (k : Int) = ((n / k : Nat) : Int) := by rw [Int.fdiv_eq_ediv_of_nonneg _ (by omega)]; rfl
section
variable {dp un : Nat} {gd : Option (List Code)} {cn : Str} {cs : Scope} {a : Addr} {ccd : Value} {cl : List (Str × Addr)} {outer : List Env} {A₀ : Around} {base g : Heap} {L : Nat} {L₀ : Addr} {s s' : Shared} {x : Int} {sh : Nat} {o : Bool} {sg : List Nat}
theorem row_1 (B : Below A₀ base (envX cn cs L₀ a ccd cl :: outer) g) (XX : (K w.params).In g) (T : Top p loose mean mg mb g) (hd : dp + 6 < recursionLimit) (hu : un + 10 * 6 < cLine)
    (hs : sg.length < 20) (I : RowSt g L s news x sh o sg s') {Q : Flow → Shared → Prop} {E : Value → Shared → Prop}
    (hE : PassesOwn (model Pw w) ((ktrTop dp un gd cn cs L₀ a ccd cl outer).deeper (rwEnv L)) (rwEnv L) E)
    (hQ : ∀ s'', RowSt g L s news x sh o (if sh % 28 = 0 then sg else sg ++ [hidAt (sh % 28)]) s'' → Q .next s'') :
    wpAny (model Pw w) ((ktrTop dp un gd cn cs L₀ a ccd cl outer).deeper (rwEnv L)) (execs [rw3.1] (rwEnv L)) Q E s' := by
  obtain ⟨h, tk, m, hi, fo, sl, n, vh, vf, vs, oc, t3, rfl, F, N, oe, ih, iff, is, ⟨⟨t1, e1⟩, e2, e4, e5, e6⟩, l0, l1, l2, l3⟩ := I
  dsimp only [rwEnv, rwScope, rw3]
  have hlen : vs.length < 20 := by rw [is.len]; exact hs
  have q28 : ∀ _ : Unit, (sh : Int).fmod 28 = ((sh % 28 : Nat) : Int) := fun _ => fmodN sh 28
  have r0 : 0 ≤ (sh : Int).fmod 28 := Int.fmod_nonneg_of_pos _ (by decide)
  have r28 : (sh : Int).fmod 28 < 28 := Int.fmod_lt_of_pos _ (by decide)
  have b1 := hid_bd ((sh : Int).fmod 28 - 1).toNat
  k_steps
  · rename News _ _ _ _ => N9
    rename Int.fmod _ _ ≠ 0 => c1
    rename Int.fmod _ _ < 12 => c2
    rw [List.push_toArray] at N9
    refine hQ _ ⟨_, _, m, hi, fo, sl, _, vh, vf, _, oc, t3, rfl, by k_asm, N9, oe, ih, iff, ?_, ⟨⟨t1, e1⟩, e2, e4, e5, e6⟩, l0, l1, l2, l3⟩
    rw [if_neg fun e => c1 (by rw [q28 (), e]; rfl)]
    have : hidAt (sh % 28) = (hidL.getD ((sh : Int).fmod 28 - 1).toNat 0).toNat := by
      unfold hidAt
      rw [if_pos (Int.ofNat_lt.mp (q28 () ▸ c2)), q28 (), show (((sh % 28 : Nat) : Int) - 1).toNat = sh % 28 - 1 from Int.toNat_sub _ 1]
    rw [this]
    exact is.app
  · rename News _ _ _ _ => N9
    rename Int.fmod _ _ ≠ 0 => c1
    rename ¬ (Int.fmod _ _ < 12) => c2
    rw [List.push_toArray] at N9
    refine hQ _ ⟨_, _, m, hi, fo, sl, _, vh, vf, _, oc, t3, rfl, by k_asm, N9, oe, ih, iff, ?_, ⟨⟨t1, e1⟩, e2, e4, e5, e6⟩, l0, l1, l2, l3⟩
    rw [if_neg fun e => c1 (by rw [q28 (), e]; rfl)]
    have : hidAt (sh % 28) = (65012 + (sh : Int).fmod 28).toNat := by
      unfold hidAt
      rw [if_neg fun e => c2 (q28 () ▸ Int.ofNat_lt.mpr e), q28 ()]; rfl
    rw [this]
    exact is.app
  · rename Int.fmod _ _ = 0 => c1
    refine hQ _ ⟨_, _, m, hi, fo, sl, _, vh, vf, _, oc, t3, rfl, F, N, oe, ih, iff, ?_, ⟨⟨t1, e1⟩, e2, e4, e5, e6⟩, l0, l1, l2, l3⟩
    rw [if_pos (Int.ofNat.inj ((q28 ()).symm.trans c1))]
    exact is
theorem row_2 (B : Below A₀ base (envX cn cs L₀ a ccd cl :: outer) g) (XX : (K w.params).In g) (T : Top p loose mean mg mb g) (hd : dp + 6 < recursionLimit) (hu : un + 10 * 6 < cLine)
    (hs : sg.length < 20) (I : RowSt g L s news x sh o sg s') {Q : Flow → Shared → Prop} {E : Value → Shared → Prop}
    (hE : PassesOwn (model Pw w) ((ktrTop dp un gd cn cs L₀ a ccd cl outer).deeper (rwEnv L)) (rwEnv L) E)
    (hQ : ∀ s'', RowSt g L s news x sh o (if x < 0 then sg ++ [c4At (sh % 66)] else sg) s'' → Q .next s'') :
    wpAny (model Pw w) ((ktrTop dp un gd cn cs L₀ a ccd cl outer).deeper (rwEnv L)) (execs [rw4.1] (rwEnv L)) Q E s' := by
  obtain ⟨h, tk, m, hi, fo, sl, n, vh, vf, vs, oc, t3, rfl, F, N, oe, ih, iff, is, ⟨⟨t1, e1⟩, e2, e4, e5, e6⟩, l0, l1, l2, l3⟩ := I
  dsimp only [rwEnv, rwScope, rw4]
  have hlen : vs.length < 20 := by rw [is.len]; exact hs
  have q66 : ∀ _ : Unit, (sh : Int).fmod 66 = ((sh % 66 : Nat) : Int) := fun _ => fmodN sh 66
  have r0 : 0 ≤ (sh : Int).fmod 66 := Int.fmod_nonneg_of_pos _ (by decide)
  have r66 : (sh : Int).fmod 66 < 66 := Int.fmod_lt_of_pos _ (by decide)
  have q2 : (((sh : Int).fmod 66 - 32).fdiv 2) = (((sh : Int).fmod 66 - 32) / 2) := by rw [Int.fdiv_eq_ediv_of_nonneg _ (by decide)]
  have q3 : ((sh : Int).fmod 66).fmod 2 = ((sh : Int).fmod 66) % 2 := by rw [Int.fmod_eq_emod_of_nonneg _ (by decide)]
  k_steps
  · rename News _ _ _ _ => N9
    rename Fr _ _ _ _ => F9
    rename x < 0 => c1
    rename Int.fmod _ _ < 32 => c2
    rw [List.push_toArray] at N9
    refine hQ _ ⟨_, _, _, hi, fo, sl, _, vh, vf, _, oc, t3, rfl, F9, N9, oe, ih, iff, ?_, ⟨⟨t1, by with_unfolding_all exact e1⟩, by with_unfolding_all exact e2, by with_unfolding_all exact e4, by with_unfolding_all exact e5, by with_unfolding_all exact e6⟩, l0, l1, l2, l3⟩
    rw [if_pos c1]
    have : c4At (sh % 66) = (64976 + (sh : Int).fmod 66).toNat := by
      unfold c4At
      rw [if_pos (Int.ofNat_lt.mp (q66 () ▸ c2)), q66 ()]; rfl
    rw [this]
    exact is.app
  · rename News _ _ _ _ => N9
    rename Fr _ _ _ _ => F9
    rename x < 0 => c1
    rename ¬ (Int.fmod _ _ < 32) => c2
    rw [List.push_toArray] at N9
    refine hQ _ ⟨_, _, _, hi, fo, sl, _, vh, vf, _, oc, t3, rfl, F9, N9, oe, ih, iff, ?_, ⟨⟨t1, by with_unfolding_all exact e1⟩, by with_unfolding_all exact e2, by with_unfolding_all exact e4, by with_unfolding_all exact e5, by with_unfolding_all exact e6⟩, l0, l1, l2, l3⟩
    rw [if_pos c1]
    have : c4At (sh % 66) = (((sh : Int).fmod 66 - 32).fdiv 2 * 65536 + 65534 + ((sh : Int).fmod 66).fmod 2).toNat := by
      unfold c4At
      rw [if_neg fun e => c2 (q66 () ▸ Int.ofNat_lt.mpr e), q2, q3, q66 ()]
      exact c4_far (Nat.mod_lt _ (by decide)) fun e => c2 (q66 () ▸ Int.ofNat_lt.mpr e)
    rw [this]
    exact is.app
  · rename ¬ (x < 0) => c1
    refine hQ _ ⟨_, _, m, hi, fo, sl, _, vh, vf, _, oc, t3, rfl, F, N, oe, ih, iff, ?_, ⟨⟨t1, e1⟩, e2, e4, e5, e6⟩, l0, l1, l2, l3⟩
    rw [if_neg c1]
    exact is
end

end Mine
end
theorem Mine.look17 : True := by first | (walk1; fail) | trivial
section
open PySem PySem.W PyProof.Rows PySem.Calls
set_option maxHeartbeats 4000000
namespace Mine
variable {w : World} {p : Program} {loose : List Str} {mean : ExcName → Option Value} {mg mb : Str → Option Value} {news : List (Addr × Obj)}
section
variable {dp un : Nat} {gd : Option (List Code)} {cn : Str} {cs : Scope} {a : Addr} {ccd : Value} {cl : List (Str × Addr)} {outer : List Env} {A₀ : Around} {base g : Heap} {L : Nat} {L₀ : Addr} {s s' : Shared} {x : Int} {sh : Nat} {o : Bool} {sg : List Nat}
open LCg in
theorem row_4 (B : Below A₀ base (envX cn cs L₀ a ccd cl :: outer) g) (XX : (K w.params).In g) (T : Top p loose mean mg mb g) (hd : dp + 6 < recursionLimit) (hu : un + 10 * 6 < cLine)
    (hs : sg.length < 20) (I : RowSt g L s news x sh o sg s') {Q : Flow → Shared → Prop} {E : Value → Shared → Prop}
    (hE : PassesOwn (model Pw w) ((ktrTop dp un gd cn cs L₀ a ccd cl outer).deeper (rwEnv L)) (rwEnv L) E)
    (hQ : ∀ h tk m oc t3 t4, Fr g L h m → News g L h ((L + 1, oc) :: news) → oc.data = .cell (some (.int (sh : Int) t3)) → m "row" = some (.str ⟨(rowF sh sg).toArray⟩ t4) → Q .next { s with heap := h, toks := tk }) :
    wpAny (model Pw w) ((ktrTop dp un gd cn cs L₀ a ccd cl outer).deeper (rwEnv L)) (exec rw6.1 (rwEnv L)) Q E s' := by
  obtain ⟨h, tk, m, hi, fo, sl, n, vh, vf, vs, oc, t3, rfl, F, N, oe, ih, iff, is, ⟨⟨t1, e1⟩, e2, e4, e5, e6⟩, l0, l1, l2, l3⟩ := I
  dsimp only [rwEnv, rwScope, rw6]
  have hlen : vs.length < 20 := by rw [is.len]; exact hs
  have q2 : (sh : Int).fdiv 2 = ((sh / 2 : Nat) : Int) := fdivN sh 2
  have q3 : ((sh : Int).fdiv 2).fmod 2 = ((sh / 2 % 2 : Nat) : Int) := by rw [q2]; exact fmodN (sh / 2) 2
  k_steps
  refine CompSrc.ledger rfl F (its := vs.toArray) (k := n) N (.head _) (by rw [List.size_toArray, sizeLine_eq]; omega) fun gg => ?_
  have hsz : vs.toArray.size = sg.length := by rw [List.size_toArray, is.len]
  rw [hsz]
  refine comp_go (n := sg.length) (fun i ys news' => news' = ((sl, listOf (List.toArray vs) n) :: (fo, tupO vf) :: (hi, tupO vh) :: (L + 1, oc) :: news) ∧ ∃ l : List (Str × Tok), ys = strValues l ∧ l.map (·.1) = ((sg.take i).map fun c => if sh / 2 % 2 = 0 then [c] else [92, c]).map tx) ?_ ?_ sg.length 0 [] _ (by omega) ⟨rfl, [], rfl, rfl⟩
  · rintro i v ys news' I oI C oC D m₂ h' tk' E' hi' ⟨rfl, l, rfl, hl⟩ hv hC hx F' N' off ne
    rw [List.getElem?_toArray] at hv
    obtain ⟨c, t, hc, rfl⟩ := is.at hv
    have htk : sg.take (i + 1) = sg.take i ++ [c] := by rw [List.take_add_one, hc]; rfl
    k_steps
    · rename _ ≠ (0 : Int) => c1
      refine CompEnd.intro F' N' _ (fun p hp => hp) off (Or.inr ⟨_, .head _, rfl, _, rfl⟩) ⟨rfl, l ++ [(_, _)], by unfold strValues; rw [List.map_append]; rfl, ?_⟩
      rw [List.map_append, hl, htk, List.map_append, List.map_append, List.map_singleton, List.map_singleton, List.map_singleton, if_neg (by omega), show Str.ofString "\\" = (⟨#[92]⟩ : Str) from by decide +kernel]
      rfl
    · rename _ = (0 : Int) => c1
      refine CompEnd.intro F' N' _ (fun p hp => hp) off (Or.inr ⟨_, .head _, rfl, _, rfl⟩) ⟨rfl, l ++ [(_, _)], by unfold strValues; rw [List.map_append]; rfl, ?_⟩
      rw [List.map_append, hl, htk, List.map_append, List.map_append, List.map_singleton, List.map_singleton, List.map_singleton, if_pos (by omega)]
  · rintro ys news' ⟨rfl, l, rfl, hl⟩ D h' tk' F' N' off
    rw [List.take_length] at hl
    dsimp only
    k_steps
    refine SC.join (News.isList N' (.head _)) hl (join_fits (fun l hl => ?_) (by simp; omega)) ?_
    · obtain ⟨c, _, rfl⟩ := List.mem_map.mp hl
      split <;> simp
    intro t' k'
    k_steps
    rename Fr _ _ _ _ => F9
    rename News _ _ _ _ => N9
    refine hQ _ _ _ oc t3 _ F9 (fun q hq => N9 q ?_) oe (by
      rw [join_flat]
      have : rowF sh sg = (sg.map fun c => if sh / 2 % 2 = 0 then [c] else [92, c]).flatten := by
        unfold rowF
        split
        · rw [← List.flatMap_def, List.flatMap_singleton']
        · rw [← List.flatMap_def]
      rw [this]
      with_unfolding_all rfl)
    repeat (first | exact hq | refine .tail _ ?_)
end

end Mine
end
theorem Mine.look18 : True := by first | (walk1; fail) | trivial
section
open PySem PySem.W PyProof.Rows PySem.Calls
set_option maxHeartbeats 4000000
namespace Mine
variable {w : World} {p : Program} {loose : List Str} {mean : ExcName → Option Value} {mg mb : Str → Option Value} {news : List (Addr × Obj)}
local macro_rules | `(tactic| walk_at "execs cons") => `(tactic| (k_here; with_reducible refine wpAny_execs_cons ?_))
theorem rep_e {prog : Program} {A : Around} {E Q : Value → Shared → Prop} {s : Shared} {x y z : Str} {t u v : Tok} (hq : ∀ t' k, Q (.str (Txt.replace x y z) t') { s with toks := k })
    (hu : u ≠ 0 := by (dsimp only; omega)) (hv : v ≠ 0 := by (dsimp only; omega)) (huv : u ≠ v := by (dsimp only; omega)) (hyz : (y == z) = false := by decide +kernel) (hx : x.length ≤ 1048576 := by omega) (hz : z.length ≤ 14 := by decide +kernel) :
    wpAny (model prog w) A (call (.builtin "str.replace") [.str x t, .str y u, .str z v]) Q E s := SC.replaceW hu hv huv hyz hx hz hq
local macro_rules | `(tactic| walk_at "call builtin:str.replace") => `(tactic| (k_here; k_dflt (refine rep_e ?_; k_whole); intro _ _))
section
variable {dp un : Nat} {gd : Option (List Code)} {cn : Str} {cs : Scope} {a : Addr} {ccd : Value} {cl : List (Str × Addr)} {outer : List Env} {A₀ : Around} {base g : Heap} {L : Nat} {L₀ : Addr} {s s' : Shared} {x : Int} {sh : Nat} {o : Bool} {sg : List Nat}
noncomputable def rw7 : { x : Stmt // x = nth (dBody (st 22)) 7 } := ⟨.If _ _ _ _, rfl⟩
noncomputable def rw8 : { x : Stmt // x = nth (dBody (st 22)) 8 } := ⟨.Return _ _, rfl⟩
theorem tx_app (a b : List Nat) : tx a ++ tx b = tx (a ++ b) := by
  show (⟨a.toArray ++ b.toArray⟩ : Str) = _
  simp
theorem tx_nil_eq (r : List Nat) : (tx r == Str.ofString "") = decide (r = []) := by
  rw [show Str.ofString "" = tx [] from by decide +kernel]
  by_cases h : r = []
  · subst h; rfl
  · rw [decide_eq_false h, beq_eq_false_iff_ne]
    intro e
    injection e with e
    exact h (by simpa using e)
theorem repl_row (r : List Nat) : Txt.replace (tx r) (Str.ofString " ") (Str.ofString "\\ ") = tx (r.flatMap fun c => if c = 32 then [92, 32] else [c]) := by
  rw [show Str.ofString " " = (⟨#[32]⟩ : Str) from by decide +kernel, show Str.ofString "\\ " = tx [92, 32] from by decide +kernel, replace_flat]
theorem repl_len (r : List Nat) : (r.flatMap fun c => if c = 32 then [92, 32] else [c]).length ≤ 2 * r.length := by
  induction r with
  | nil => exact Nat.zero_le _
  | cons c r ih =>
    rw [List.flatMap_cons, List.length_append, List.length_cons]
    have : (if c = 32 then [92, 32] else [c]).length ≤ 2 := by
      by_cases h : c = 32
      · rw [if_pos h]; exact Nat.le_refl 2
      · rw [if_neg h]; exact Nat.le_succ 1
    omega
theorem val_q (r : List Nat) (k : Nat) : tx [34] ++ tx r ++ tx [34] ++ tx [k] = tx (34 :: (r ++ [34]) ++ [k]) := by
  rw [tx_app, tx_app, tx_app]
  simp
theorem rowG_a {sh : Nat} {r : List Nat} (h : sh % 2 ≠ 0 ∨ r = []) : rowG sh r = 34 :: (r ++ [34]) := if_pos h
theorem rowG_b {sh : Nat} {r : List Nat} (h1 : sh % 2 = 0) (h2 : ¬ r = []) (h3 : sh / 2 % 2 = 0) : rowG sh r = r.flatMap (fun c => if c = 32 then [92, 32] else [c]) :=
  (if_neg (by rintro (h | h); exact h h1; exact h2 h)).trans (if_pos h3)
theorem rowG_c {sh : Nat} {r : List Nat} (h1 : sh % 2 = 0) (h2 : ¬ r = []) (h3 : ¬ sh / 2 % 2 = 0) : rowG sh r = r :=
  (if_neg (by rintro (h | h); exact h h1; exact h2 h)).trans (if_neg h3)
theorem row_5 (B : Below A₀ base (envX cn cs L₀ a ccd cl :: outer) g) (XX : (K w.params).In g) (T : Top p loose mean mg mb g) (hd : dp + 6 < recursionLimit) (hu : un + 10 * 6 < cLine)
    {r : List Nat} (hs : r.length < 100) {h : Heap} {tk : Nat} {m : Str → Option Value} {oc : Obj} {t3 t4 : Tok} (F : Fr g L h m) (N : News g L h ((L + 1, oc) :: news)) (oe : oc.data = .cell (some (.int (sh : Int) t3))) (e1 : m "row" = some (.str (tx r) t4))
    {Q : Flow → Shared → Prop} {E : Value → Shared → Prop}
    (hE : PassesOwn (model Pw w) ((ktrTop dp un gd cn cs L₀ a ccd cl outer).deeper (rwEnv L)) (rwEnv L) E)
    (hQ : ∀ h tk m t4, Fr g L h m → News g L h news → Q (.ret (.str (tx (rowG sh r ++ [wsAt (sh / 3 % 4)])) t4)) { s with heap := h, toks := tk }) :
    wpAny (model Pw w) ((ktrTop dp un gd cn cs L₀ a ccd cl outer).deeper (rwEnv L)) (execs [rw7.1, rw8.1] (rwEnv L)) Q E { s with heap := h, toks := tk } := by
  dsimp only [rwEnv, rwScope, rw7, rw8]
  have hlen : (tx r).length < 100 := by show r.toArray.size < 100; rw [List.size_toArray]; exact hs
  have q0 : ∀ _ : Unit, (sh : Int).fmod 2 = ((sh % 2 : Nat) : Int) := fun _ => fmodN sh 2
  have q2 : ∀ _ : Unit, (sh : Int).fdiv 2 = ((sh / 2 : Nat) : Int) := fun _ => fdivN sh 2
  have q3 : ∀ _ : Unit, ((sh : Int).fdiv 2).fmod 2 = ((sh / 2 % 2 : Nat) : Int) := fun _ => by rw [q2 ()]; exact fmodN (sh / 2) 2
  have q4 : ∀ _ : Unit, ((sh : Int).fdiv 3).fmod 4 = ((sh / 3 % 4 : Nat) : Int) := fun _ => by rw [show (sh : Int).fdiv 3 = ((sh / 3 : Nat) : Int) from fdivN sh 3]; exact fmodN (sh / 3) 4
  have q5 : Txt.item (Str.ofString "\n\t\r ") (((sh : Int).fdiv 3).fmod 4) = tx [wsAt (sh / 3 % 4)] := by rw [q4 ()]; exact item_ws (Nat.mod_lt _ (by decide))
  have hrep : (Txt.replace (tx r) (Str.ofString " ") (Str.ofString "\\ ")).length ≤ 200 := by
    rw [repl_row]
    show (List.toArray _).size ≤ 200
    rw [List.size_toArray]
    have := repl_len r
    omega
  have e34 : Str.ofString "\"" = tx [34] := by decide +kernel
  k_steps
  · rename _ ≠ (0 : Int) => c1
    rename Fr _ _ _ _ => F9
    rename News _ _ _ _ => N9
    rw [rowG_a (.inl fun e => c1 (by rw [q0 (), e]; rfl))] at hQ
    dsimp only
    rw [e34, q5, val_q]
    exact hQ _ _ _ _ F9 (fun q hq => N9 q (.tail _ hq))
  · rename _ = (0 : Int) => c1
    rename _ = true => c2
    rename Fr _ _ _ _ => F9
    rename News _ _ _ _ => N9
    rw [tx_nil_eq, decide_eq_true_eq] at c2
    rw [rowG_a (.inr c2)] at hQ
    dsimp only
    rw [e34, q5, val_q]
    exact hQ _ _ _ _ F9 (fun q hq => N9 q (.tail _ hq))
  · rename (tx r == _) = false => c2
    have c1 := (by assumption : (sh : Int).fmod 2 = 0)
    have c3 := (by assumption : ((sh : Int).fdiv 2).fmod 2 = 0)
    rename Fr _ _ _ _ => F9
    rename News _ _ _ _ => N9
    rw [tx_nil_eq, decide_eq_false_iff_not] at c2
    rw [rowG_b (Int.ofNat.inj ((q0 ()).symm.trans c1)) c2 (Int.ofNat.inj ((q3 ()).symm.trans c3))] at hQ
    dsimp only
    rw [repl_row, q5, tx_app]
    exact hQ _ _ _ _ F9 (fun q hq => N9 q (.tail _ hq))
  · rename (tx r == _) = false => c2
    have c1 := (by assumption : (sh : Int).fmod 2 = 0)
    have c3 := (by assumption : ((sh : Int).fdiv 2).fmod 2 ≠ 0)
    rw [tx_nil_eq, decide_eq_false_iff_not] at c2
    rw [rowG_c (Int.ofNat.inj ((q0 ()).symm.trans c1)) c2 fun e => c3 (by rw [q3 (), e]; rfl)] at hQ
    dsimp only
    rw [q5, tx_app]
    exact hQ _ _ _ _ F (fun q hq => N q (.tail _ hq))
end

end Mine
end
theorem Mine.look19 : True := by first | (walk1; fail) | trivial
section
open PySem PySem.W PyProof.Rows PySem.Calls
set_option maxHeartbeats 4000000
namespace Mine
variable {w : World} {p : Program} {loose : List Str} {mean : ExcName → Option Value} {mg mb : Str → Option Value} {news : List (Addr × Obj)}
local macro_rules | `(tactic| walk_at "call builtin:len") => `(tactic| (k_here; k_dflt (refine' len_lst ?_; k_whole)))
local macro_rules | `(tactic| walk_at "subscriptTail Name BinOp ref int") => `(tactic| (k_here; with_unfolding_all (refine item_tupInts ?_; k_whole); intro _))
local macro_rules | `(tactic| walk_at "call ref") => `(tactic| (k_here; with_reducible refine atR 99 ?_; k_dflt (refine Claim.goY c_ap ?_; k_whole; intros; (try dsimp only))))
section
variable {dp un : Nat} {gd : Option (List Code)} {cn : Str} {cs : Scope} {a : Addr} {ccd : Value} {cl : List (Str × Addr)} {outer : List Env} {A₀ : Around} {base g : Heap} {L : Nat} {L₀ : Addr} {s s' : Shared} {x : Int} {sh : Nat} {o : Bool} {sg : List Nat}
theorem form_bd (i : Nat) (h : i < 12) : 65 ≤ formL.getD i 0 ∧ formL.getD i 0 ≤ 120432 := (by decide : ∀ i : Fin 12, 65 ≤ formL.getD i.1 0 ∧ formL.getD i.1 0 ≤ 120432) ⟨i, h⟩
theorem toNat65 {A : Int} {c : Nat} (h : 65 ≤ A) (g : 65 ≤ c) : (A + (c : Int) - 65).toNat = A.toNat + (c - 65) := by omega
theorem word_bd : ∀ (n : Nat), ∀ c ∈ wordOf n, 65 ≤ c.toNat ∧ c.toNat ≤ 80 := by
  intro n
  induction n using Nat.strongRecOn with
  | ind n ih =>
    intro c hc
    by_cases h0 : n = 0
    · subst h0; cases hc
    · rw [wordOf_pos h0] at hc
      rcases List.mem_append.mp hc with hc | hc
      · exact ih (n / 16) (Nat.div_lt_self (Nat.pos_of_ne_zero h0) (by decide)) c hc
      · rw [List.mem_singleton.mp hc]
        exact (by decide : ∀ d : Fin 16, 65 ≤ (UInt8.ofNat (65 + d.1)).toNat ∧ (UInt8.ofNat (65 + d.1)).toNat ≤ 80) ⟨n % 16, Nat.mod_lt _ (by decide)⟩
theorem row_3 (B : Below A₀ base (envX cn cs L₀ a ccd cl :: outer) g) (XX : (K w.params).In g) (T : Top p loose mean mg mb g) (hd : dp + 6 < recursionLimit) (hu : un + 10 * 6 < cLine)
    (hx : x.natAbs < 256) (hs : sg.length < 10) (I : RowSt g L s news x sh o sg s') {Q : Flow → Shared → Prop} {E : Value → Shared → Prop}
    (hE : PassesOwn (model Pw w) ((ktrTop dp un gd cn cs L₀ a ccd cl outer).deeper (rwEnv L)) (rwEnv L) E)
    (hQ : ∀ s'', RowSt g L s news x sh o ((wordOf x.natAbs).foldl (sgD sh) sg) s'' → Q .next s'') :
    wpAny (model Pw w) ((ktrTop dp un gd cn cs L₀ a ccd cl outer).deeper (rwEnv L)) (exec rw5.1 (rwEnv L)) Q E s' := by
  obtain ⟨h, tk, m, hi, fo, sl, n, vh, vf, vs, oc, t3, rfl, F, N, oe, ih, iff, is, ⟨⟨t1, e1⟩, e2, e4, e5, e6⟩, l0, l1, l2, l3⟩ := I
  dsimp only [rwEnv, rwScope, rw5]
  have hw := word_small hx
  refine for_led (s₀ := s) (h₀ := g) (fun k m led => ∃ n vs, led = ((sl, listOf (List.toArray vs) n) :: (fo, tupO vf) :: (hi, tupO vh) :: (L + 1, oc) :: news) ∧ SgAre vs (((wordOf x.natAbs).take k).foldl (sgD sh) sg) ∧ RowM x o hi fo sl m) (wordOf x.natAbs).toArray.size (fun i v => ∃ c u, (wordOf x.natAbs).toArray[i]? = some c ∧ v = .int (c.toNat : Int) u) ?_ ?_ ?_ (hE := hE)
  · k_steps
    exact ready_bytes _ rfl (by k_asm) (by k_asm) ⟨n, vs, rfl, is, ⟨⟨t1, e1⟩, e2, e4, e5, e6⟩⟩ ⟨rfl, rfl, rfl⟩
  rotate_left
  · rintro m₁ led hh tkk ⟨n₁, vs₁, rfl, is₁, r₁⟩ F1 N1
    rw [show (wordOf x.natAbs).take (wordOf x.natAbs).toArray.size = wordOf x.natAbs from List.take_of_length_le (by simp)] at is₁
    exact hQ _ ⟨_, _, m₁, hi, fo, sl, n₁, vh, vf, vs₁, oc, t3, rfl, F1, N1, oe, ih, iff, is₁, r₁, l0, l1, l2, l3⟩
  clear F N is e1 e2 e4 e5 e6
  rintro k v m₁ led hh tkk I₁ o₁ hk ⟨c, u, hc, rfl⟩ ⟨n₁, vs₁, rfl, is₁, ⟨⟨t1, e1⟩, e2, e4, e5, e6⟩⟩ F1 N1 hI1
  rw [List.size_toArray] at hk
  have hlen : vs₁.length < 20 := by rw [is₁.len, sgD_len, List.length_take]; omega
  have r0 : 0 ≤ ((sh : Int).fdiv 12 + ((vs₁.length : Nat) : Int)).fmod 12 := Int.fmod_nonneg_of_pos _ (by decide)
  have r12 : ((sh : Int).fdiv 12 + ((vs₁.length : Nat) : Int)).fmod 12 < 12 := Int.fmod_lt_of_pos _ (by decide)
  have q12 : ∀ _ : Unit, ((sh : Int).fdiv 12 + ((vs₁.length : Nat) : Int)).fmod 12 = (((sh / 12 + vs₁.length) % 12 : Nat) : Int) := fun _ => by rw [show (12 : Int) = ((12 : Nat) : Int) from rfl, fdivN, ← Int.natCast_add, fmodN]
  have i1 : @Ne Nat sl I₁ := hI1 (sl, _) (.head _)
  have fb := form_bd ((sh / 12 + vs₁.length) % 12) (Nat.mod_lt _ (by decide))
  have e12 : ∀ _ : Unit, ((((sh / 12 + vs₁.length) % 12 : Nat) : Int)).toNat = (sh / 12 + vs₁.length) % 12 := fun _ => Int.toNat_natCast _
  have hcm : c ∈ wordOf x.natAbs := by rw [← List.mem_toArray]; exact Array.mem_of_getElem? hc
  obtain ⟨c1, c2⟩ := word_bd _ c hcm
  rw [← e12 (), ← q12 ()] at fb
  obtain ⟨f1, f2⟩ := fb
  k_steps
  rename News _ _ _ _ => N9
  rename Fr _ _ _ _ => F9
  rw [List.push_toArray] at N9
  refine ⟨_, _, _, _, rfl, F9, N9, ?_, n₁ + 1, vs₁ ++ [_], rfl, ?_, ⟨⟨t1, by with_unfolding_all exact e1⟩, by with_unfolding_all exact e2, by with_unfolding_all exact e4, by with_unfolding_all exact e5, by with_unfolding_all exact e6⟩⟩
  · intro q hq
    rcases List.mem_cons.mp hq with rfl | hq
    · exact i1
    · exact hI1 q (.tail _ hq)
  · have : (wordOf x.natAbs).take (k + 1) = (wordOf x.natAbs).take k ++ [c] := by
      rw [List.take_add_one]
      rw [List.getElem?_toArray] at hc
      rw [hc]; rfl
    rw [this, List.foldl_append, List.foldl_cons, List.foldl_nil]
    have e : ((formL.getD (((sh : Int).fdiv 12 + ((vs₁.length : Nat) : Int)).fmod 12).toNat 0) + (c.toNat : Int) - 65).toNat = formAt ((sh / 12 + (((wordOf x.natAbs).take k).foldl (sgD sh) sg).length) % 12) + (c.toNat - 65) := by
      unfold formAt
      rw [← is₁.len, q12 (), e12 ()]
      rw [q12 (), e12 ()] at f1
      exact toNat65 f1 c1
    rw [e]
    exact is₁.app
end

end Mine
end
theorem Mine.look20 : True := by first | (walk1; fail) | trivial
section
open PySem PySem.W PyProof.Rows PySem.Calls
set_option maxHeartbeats 4000000
namespace Mine
variable {w : World} {p : Program} {loose : List Str} {mean : ExcName → Option Value} {mg mb : Str → Option Value} {news : List (Addr × Obj)}
theorem News.drop5 {h₀ h : Heap} {L : Addr} {a b c d e x : Addr × Obj} {r : Led} (N : News h₀ L h (a :: b :: c :: d :: e :: x :: r)) : News h₀ L h (a :: b :: c :: d :: e :: r) := fun q hq => N q (by
  simp only [List.mem_cons] at hq ⊢
  rcases hq with h | h | h | h | h | h <;> simp [h])
theorem t_lexer (page : Str) (ta : Tok) (hne : ∀ p ∈ news, p.1 ≠ 192) :
    Claim w p loose mean mg mb 3 197 [.str page ta] ((nat_lit 192, tabObj #[]) :: news) (fun v n' => ∃ X : Lx, X.Ok ∧ X.page = page ∧ (∀ p ∈ ((nat_lit 192, tabObj #[]) :: news), p.1 < X.cp) ∧ v = .ref X.x ∧ ∃ tp tl np ps, n' = lexLed w X 0 1 tp tl #[] np ((nat_lit 192, tabObj ps) :: news)) := by
  intro dp un gd cn cs a ccd cl outer A₀ base h₀ L m s R B F X N T hk hd hu hret
  have hcode : CodeHd h₀ 196 192 := codeHd_of_K X (by kernel_rfl)
  k_dflt cell_enter
  have hcode2 : CodeHd _ 196 192 := codeHd_of_K (by assumption) (by kernel_rfl)
  have hlow9 : Low _ news := Low.tail (by assumption)
  show wpAny _ _ (execs (_ :: _) _) _ _ _
  k_steps

  rename_i gp_1 Lp_1 hp_14 tkp_4 FGp_1 Bp_1 Xp_1 Tp_1 lowp_1 bigp_1 op_1 o2p_0 d1p_2 d2p_2 lp_1 hp_13 l1_5 hp_12 op_0 dp_2 tk_0 fp_1 cp_1 ocp_1 vsp_1 tp_1 ctp_1 dcp_0 hp_11 tkp_3 d1p_1 d2p_1 l1_4 l2_2 hp_10 tz_1 fp_0 cp_0 ocp_0 vsp_0 tp_0 ctp_0 hp_9 tkp_2 d1p_0 d2p_0 l1_3 l2_1 hp_8 tz_2 hp_7 dp_1 tkp_1 tk2p_0 l1_2 xp_0 dp_0 hp_6 Fp_1 Np_1 l1_1 l2_0 gp_0 Lp_0 hp_5 tkp_0 FGp_0 Bp_0 Xp_0 Tp_0 lowp_0 bigp_0 hp_4 hp_3 hp_2 lp_0 hp_1 l1_0 hp_0 Fp_0 Np_0 kF_1 kN_1 Tcp_1 kX_1 kF_0 kN_0 Tcp_0 kX_0
  refine hret _ _ _ _ ⟨⟨Lp_1 + 1, Lp_1 + 1 + 1, lp_1, cp_1, fp_1, fp_0, dp_1, dp_0, xp_0, lp_0, page, ta, o2p_0, op_0, ocp_1, vsp_1, tp_1, _, _, _, _, _, _, _, _, _, _, _⟩, ?ok, rfl, ?low, rfl, _, _, _, _, rfl⟩ kF_0 (News.drop5 kN_0)
  case ok =>
    exact ⟨d2p_2.trans (by kernel_rfl), dp_2, d1p_1, d2p_1, Nat.lt_succ_self _, l1_5.1, l1_4.1, l2_2, Nat.lt_trans l1_3.1 l2_1, l1_2.1, l1_1.1, l2_0, l1_0.1⟩
  case low => exact fun q hq => Nat.lt_succ_of_lt (lowp_1 q hq)

end Mine
end
theorem Mine.look21 : True := by first | (walk1; fail) | trivial
section
open PySem PySem.W PyProof.Rows PySem.Calls
set_option maxHeartbeats 4000000
namespace Mine
variable {w : World} {p : Program} {loose : List Str} {mean : ExcName → Option Value} {mg mb : Str → Option Value} {news : List (Addr × Obj)}
theorem c_row (x : Int) (sh : Nat) (o : Bool) (tx' ts : Tok) (hx : x.natAbs ≤ 40) :
    Claim w p loose mean mg mb 8 207 [.int x tx', .bool o, .int (sh : Int) ts] news (IsS (tx (rowOf x o sh)) news) := by
  intro dp un gd cn cs a ccd cl outer A₀ base h₀ L m s R B F XX N T hk hd hu hret
  k_dflt cell_enter
  rename_i gp Lp hp tkp FGp F0 Bp Xp Tp lowp bigp op dp' N0
  replace dp' : op.data = .cell (some (.int (sh : Int) ts)) := dp'.trans (by kernel_rfl)
  clear F N B XX T
  refine execs_mid 3 (RowSt gp Lp s news x sh o (sgA o)) ?_ ?_
  · show wpAny _ _ (execs [_, _, _] _) _ _ _
    k_steps
    all_goals (rename Fr _ _ _ _ => F9; rename News _ _ _ _ => N9)
    · refine ⟨_, _, _, _, _, _, _, [_, _, _, _, _, _, _, _, _, _, _], [_, _, _, _, _, _, _, _, _, _, _, _], [_], _, _, rfl, F9, N9, dp', ?_, ?_, ?_, ⟨⟨_, by with_unfolding_all rfl⟩, by with_unfolding_all rfl, by with_unfolding_all rfl, by with_unfolding_all rfl, by with_unfolding_all rfl⟩, ?_, ?_, ?_, lowp⟩
      · repeat (first | exact .nil | refine .cons _ _ ?_)
      · repeat (first | exact .nil | refine .cons _ _ ?_)
      · rw [show sgA o = [32] from if_pos (by assumption)]
        exact sg_sp
      all_goals omega
    · refine ⟨_, _, _, _, _, _, _, [_, _, _, _, _, _, _, _, _, _, _], [_, _, _, _, _, _, _, _, _, _, _, _], [], _, _, rfl, F9, N9, dp', ?_, ?_, ?_, ⟨⟨_, by with_unfolding_all rfl⟩, by with_unfolding_all rfl, by with_unfolding_all rfl, by with_unfolding_all rfl, by with_unfolding_all rfl⟩, ?_, ?_, ?_, lowp⟩
      · repeat (first | exact .nil | refine .cons _ _ ?_)
      · repeat (first | exact .nil | refine .cons _ _ ?_)
      · rw [show sgA o = [] from if_neg (by first | assumption | simp_all)]
        exact .nil
      all_goals omega
  · intro s' hst
    dsimp only [List.drop]
    refine execs_mid 1 (RowSt gp Lp s news x sh o (sgB o sh)) (row_1 (dp := dp) (un := un) Bp Xp Tp (by omega) (by omega) ?_ hst (by passes_own) fun s'' h => h) ?_
    · have := sgA_len o; omega
    intro s' hst
    dsimp only [List.drop]
    refine execs_mid 1 (RowSt gp Lp s news x sh o (sgC x o sh)) (row_2 (dp := dp) (un := un) Bp Xp Tp (by omega) (by omega) ?_ hst (by passes_own) fun s'' h => h) ?_
    · have := sgB_len o sh; omega
    intro s' hst
    dsimp only [List.drop]
    refine wpAny_execs_cons ?_
    refine row_3 (dp := dp) (un := un) Bp Xp Tp (by omega) (by omega) ?_ ?_ hst (by passes_own) fun s'' h => ?_
    · omega
    · have := sgC_len x o sh; omega
    dsimp only
    refine wpAny_execs_cons ?_
    refine row_4 (dp := dp) (un := un) Bp Xp Tp (by omega) (by omega) ?_ h (by passes_own) fun h1 tk1 m1 oc1 t3 t4 F1 N1 e1 e2 => ?_
    · have := sgE_len (x := x) (by omega) o sh; exact Nat.lt_of_le_of_lt this (by decide)
    dsimp only
    refine row_5 (dp := dp) (un := un) Bp Xp Tp (by omega) (by omega) ?_ F1 N1 e1 e2 (by passes_own) fun h2 tk2 m2 t5 F2 N2 => ?_
    · have := sgE_len (x := x) (by omega) o sh; have := rowF_len sh (sgE x o sh); exact Nat.lt_of_le_of_lt this (by omega)
    dsimp only
    refine leaveK_ F2 N2 fun kF kN => hret _ _ _ _ ⟨⟨_, rfl⟩, rfl⟩ kF kN

end Mine
end
theorem Mine.look22 : True := by first | (walk1; fail) | trivial
section
open PySem PySem.W PyProof.Rows PySem.Calls
set_option maxHeartbeats 4000000
namespace Mine
variable {w : World} {p : Program} {loose : List Str} {mean : ExcName → Option Value} {mg mb : Str → Option Value} {news : List (Addr × Obj)}
local macro_rules | `(tactic| walk_at "eval ListComp") => `(tactic| (k_here; k_dflt (refine ListComp_H (h := ?_))))
local macro_rules | `(tactic| walk_at "exec Assign cons ListComp") => `(tactic| (k_here; k_dflt (refine Assign_ListComp_V (h := ?_))))
local macro_rules | `(tactic| walk_at "subscriptTail Name Name ref int") => `(tactic| (k_here; with_unfolding_all (refine item_e ?_; k_whole); intro _))
section
variable {dp un : Nat} {gd : Option (List Code)} {cn : Str} {cs : Scope} {a : Addr} {ccd : Value} {cl : List (Str × Addr)} {outer : List Env} {A₀ : Around} {base g : Heap} {L : Nat} {L₀ : Addr} {s s' : Shared}
open LCg in
theorem dr_5 (B : Below A₀ base (envX cn cs L₀ a ccd cl :: outer) g) (XX : (K w.params).In g) (T : Top p loose mean mg mb g) (hd : dp + 6 < recursionLimit) (hu : un + 10 * 6 < cLine)
    {news : Led} {h : Heap} {m : Str → Option Value} {pa hl sl : Addr} {ys ws : List Value} {zs : List Int} {o1 o2 o3 : Obj} {n n2 i j : Nat} {t1 t2 : Tok} (F : Fr g L h m) (N : News g L h ((pa, { cls := .type "tuple", data := .seq #[.int (i : Nat) t1, .int (j : Nat) t2] }) :: (hl, listOf (List.toArray ys) n2) :: (sl, listOf (List.toArray ws) n) :: (L + 1 + 1 + 1, o3) :: (L + 1 + 1, o2) :: (L + 1, o1) :: news))
    (c1 : o1.data = .cell (some (.ref sl))) (c2 : o2.data = .cell (some (.ref hl))) (c3 : o3.data = .cell (some (.ref pa))) (iw : IntsAre ws zs) (iy : IntsAre ys (zs.map (· / 81))) (hz : SumsOk 19000000 zs) (hij : i < j) (hj : j < 6)
    {Q : Flow → Shared → Prop} {E : Value → Shared → Prop}
    (hE : PassesOwn (model Pw w) ((ktrTop dp un gd cn cs L₀ a ccd cl outer).deeper (drEnv L)) (drEnv L) E)
    (hQ : ∀ D T rs h tk, Fr g L h m → News g L h ((D, lst rs) :: (news ++ T)) → RowsAre T rs (drRows zs i j) → (∀ q ∈ news, @Ne Nat q.1 D) → (∀ p ∈ T, @LT.lt Nat _ (L + 1 + 1 + 1) p.1) → Q (.ret (.ref D)) { s with heap := h, toks := tk }) :
    wpAny (model Pw w) ((ktrTop dp un gd cn cs L₀ a ccd cl outer).deeper (drEnv L)) (exec dr5.1 (drEnv L)) Q E { s with heap := h, toks := tk } := by
  dsimp only [drEnv, drScope, dr5]
  have hw6 := IntsAre.length iw
  have hy6 := IntsAre.length iy
  have z6 := hz.1
  rw [List.length_map] at hy6
  k_steps
  rename News _ _ _ _ => N9
  rename Fr _ _ _ _ => F9
  rename IsRange _ _ _ _ _ _ _ _ => hr
  refine CompSrcH.mk (CompSrc.range rfl F9 N9 hr (by decide) (n := 6) rfl (by size_fits) fun gg => ?_)
  refine comp_go (n := 6) (fun k rs news' => ∃ T tl, tl = news ++ T ∧ news' = ((pa, { cls := .type "tuple", data := .seq #[.int (i : Nat) t1, .int (j : Nat) t2] }) :: (hl, listOf (List.toArray ys) n2) :: (sl, listOf (List.toArray ws) n) :: (L + 1 + 1 + 1, o3) :: (L + 1 + 1, o2) :: (L + 1, o1) :: tl) ∧
    RowsAre T rs ((drRows zs i j).take k) ∧ ∀ p ∈ T, @LT.lt Nat _ (L + 1 + 1 + 1) p.1) ?_ ?_ 6 0 [] _ (by omega) ⟨[], news, by rw [List.append_nil], rfl, .nil, fun _ h => nomatch h⟩
  · rintro k v rs news' I oI C oC D m₂ h' tk' E' hk ⟨T2, tl, htl, rfl, hR, hT⟩ ⟨t, rfl⟩ hC hx F' N' off ne
    rw [Int.zero_add] at hx
    clear F9 N9
    k_steps
    rename News _ _ _ _ => N9
    rename Fr _ _ _ _ => F9
    rename _ ∧ _ ∧ _ ∧ _ ∧ _ ∧ _ ∧ _ ∧ _ ∧ _ ∧ _ => ll
    obtain ⟨l1, l2, l3, l4, l5, l6, l7, l8, l9, l10⟩ := ll
    rename_i D9 h9
    have hany : ([(i : Int), (j : Int)].any fun x => x == (k : Int)) = decide (k = i ∨ k = j) := by
      have e1 : (((i : Int) == (k : Int)) = true) = (i = k) := by rw [beq_iff_eq]; exact propext ⟨Int.ofNat.inj, congrArg _⟩
      have e2 : (((j : Int) == (k : Int)) = true) = (j = k) := by rw [beq_iff_eq]; exact propext ⟨Int.ofNat.inj, congrArg _⟩
      rw [Bool.eq_iff_iff, List.any_cons, List.any_cons, List.any_nil, Bool.or_false, Bool.or_eq_true, decide_eq_true_eq, e1, e2]
      exact ⟨fun h => h.imp Eq.symm Eq.symm, fun h => h.imp Eq.symm Eq.symm⟩
    rw [hany] at N9
    have hdiv : (zs.map (· / 81)).getD ((k : Int)).toNat 0 = zs.getD k 0 / 81 := by
      rw [Int.toNat_natCast, List.getD_eq_getElem?_getD, List.getD_eq_getElem?_getD, List.getElem?_map]
      cases zs[k]? with
      | none => rfl
      | some _ => rfl
    rw [hdiv, Int.toNat_natCast] at N9
    generalize hO : ({ cls := Value.type "tuple", data := Data.seq _ _ } : Obj) = O at N9
    refine CompEnd.intro F9 N9 ((pa, { cls := .type "tuple", data := .seq #[.int (i : Nat) t1, .int (j : Nat) t2] }) :: (hl, listOf (List.toArray ys) n2) :: (sl, listOf (List.toArray ws) n) :: (L + 1 + 1 + 1, o3) :: (L + 1 + 1, o2) :: (L + 1, o1) :: (tl ++ [(D9, O)])) (fun p hp => ?_) ?_ trivial ⟨T2 ++ [(D9, O)], tl ++ [(D9, O)], by rw [htl, List.append_assoc], rfl, ?_, fun p hp => ?_⟩
    · simp only [List.mem_cons, List.mem_append, List.not_mem_nil, or_false] at hp ⊢
      rcases hp with h | h | h | h | h | h | h | h | h | h | h
      · exact .inr (.inl h)
      · exact .inr (.inr (.inl h))
      · exact .inr (.inr (.inr (.inl h)))
      · exact .inr (.inr (.inr (.inr (.inl h))))
      · exact .inr (.inr (.inr (.inr (.inr (.inl h)))))
      · exact .inr (.inr (.inr (.inr (.inr (.inr (.inl h))))))
      · exact .inr (.inr (.inr (.inr (.inr (.inr (.inr (.inl h)))))))
      · exact .inr (.inr (.inr (.inr (.inr (.inr (.inr (.inr (.inl h))))))))
      · exact .inr (.inr (.inr (.inr (.inr (.inr (.inr (.inr (.inr (.inl h)))))))))
      · exact .inr (.inr (.inr (.inr (.inr (.inr (.inr (.inr (.inr (.inr h)))))))))
      · exact .inl h
    · obtain ⟨f1, f2, f3, f4, f5, f6, f7⟩ := off
      exact ⟨f1, f2, f3, f4, f5, f6, Off3.of fun p hp => by
        rcases List.mem_append.mp hp with hp | hp
        · exact f7.mem p hp
        · cases List.mem_singleton.mp hp
          exact ⟨Nat.ne_of_gt l1, Nat.ne_of_gt l2, Nat.ne_of_gt l3⟩⟩
    · rw [drRows_take zs i j hk]
      subst hO
      refine RowsAre.snoc (r := drRow zs i j k) ?_ (hR.mono fun p hp => List.mem_append_left _ hp)
      exact ⟨D9, _, _, rfl, List.mem_append_right _ (.head _)⟩
    · rcases List.mem_append.mp hp with hp | hp
      · exact hT p hp
      · cases List.mem_singleton.mp hp
        exact l7
  · rintro rs news' ⟨T2, tl, htl, rfl, hR, hT⟩ D h' tk' F' N' off
    dsimp only
    subst htl
    refine hQ D T2 rs h' tk' F' (fun p hp => N' p ?_) hR (fun q hq => off1_mem off q (.tail _ (.tail _ (.tail _ (.tail _ (.tail _ (.tail _ (List.mem_append_left _ hq)))))))) hT
    rcases List.mem_cons.mp hp with rfl | hp
    · exact .head _
    · exact .tail _ (.tail _ (.tail _ (.tail _ (.tail _ (.tail _ (.tail _ hp))))))
end

end Mine
end
theorem Mine.look23 : True := by first | (walk1; fail) | trivial
section
open PySem PySem.W PyProof.Rows PySem.Calls
set_option maxHeartbeats 4000000
namespace Mine
variable {w : World} {p : Program} {loose : List Str} {mean : ExcName → Option Value} {mg mb : Str → Option Value} {news : List (Addr × Obj)}
section
variable {dp un : Nat} {gd : Option (List Code)} {cn : Str} {cs : Scope} {a : Addr} {ccd : Value} {cl : List (Str × Addr)} {outer : List Env} {A₀ : Around} {base g : Heap} {L : Nat} {L₀ : Addr} {s s' : Shared}
open LCg in
theorem dr_4 (B : Below A₀ base (envX cn cs L₀ a ccd cl :: outer) g) (XX : (K w.params).In g) (T : Top p loose mean mg mb g) (hd : dp + 6 < recursionLimit) (hu : un + 10 * 6 < cLine)
    {news : Led} {h : Heap} {m : Str → Option Value} {D hl sl : Addr} {ps ys ws : List Value} {zs : List Int} {o1 o2 o3 : Obj} {n n2 : Nat} (F : Fr g L h m) (N : News g L h ((D, lst ps) :: (hl, listOf (List.toArray ys) n2) :: (sl, listOf (List.toArray ws) n) :: (L + 1 + 1 + 1, o3) :: (L + 1 + 1, o2) :: (L + 1, o1) :: news))
    (c1 : o1.data = .cell (some (.ref sl))) (c2 : o2.data = .cell (some (.ref hl))) (c3 : o3.data = .cell none) (iy : IntsAre ys (zs.map (· / 81))) (hz : SumsOk 19000000 zs) (hps : ps.length = 15) (em : m (Str.ofString "pairs") = some (.ref D))
    (d1 : @Ne Nat D (L + 1 + 1 + 1)) (d2 : @Ne Nat hl (L + 1 + 1 + 1)) (d3 : @Ne Nat sl (L + 1 + 1 + 1)) (l2 : ∀ p ∈ news, p.1 ≠ L + 1 + 1 + 1) {Q : Flow → Shared → Prop} {E : Value → Shared → Prop}
    (hE : PassesOwn (model Pw w) ((ktrTop dp un gd cn cs L₀ a ccd cl outer).deeper (drEnv L)) (drEnv L) E)
    (hQ : ∀ o3' y h tk, Fr g L h m → News g L h ((D, lst ps) :: (hl, listOf (List.toArray ys) n2) :: (sl, listOf (List.toArray ws) n) :: (L + 1 + 1 + 1, o3') :: (L + 1 + 1, o2) :: (L + 1, o1) :: news) → o3'.data = .cell (some y) → y ∈ ps → Q .next { s with heap := h, toks := tk }) :
    wpAny (model Pw w) ((ktrTop dp un gd cn cs L₀ a ccd cl outer).deeper (drEnv L)) (exec dr4.1 (drEnv L)) Q E { s with heap := h, toks := tk } := by
  dsimp only [drEnv, drScope, dr4]
  k_steps
  rename News _ _ _ _ => N9
  rename Fr _ _ _ _ => F9
  have b0 : 0 ≤ ((zs.map (· / 81)).sum.fmod 15) := Int.fmod_nonneg_of_pos _ (by decide)
  have b1 : ((zs.map (· / 81)).sum.fmod 15) < 15 := Int.fmod_lt_of_pos _ (by decide)
  have hlt : ((zs.map (· / 81)).sum.fmod 15).toNat < ps.length := by omega
  refine item_listL (News.isList N9 (.head _)) b0 (by omega) (List.getElem?_eq_getElem hlt) ?_
  generalize hy : ps[((zs.map (· / 81)).sum.fmod 15).toNat] = y
  have hm : y ∈ ps := hy ▸ List.getElem_mem hlt
  clear hy b0 b1 hlt
  dsimp only
  k_steps
  rename News _ _ _ _ => N10
  rename Fr _ _ _ _ => F10
  exact hQ _ y _ _ F10 N10 (by first | assumption | rfl) hm
end

end Mine
end
theorem Mine.look24 : True := by first | (walk1; fail) | trivial
section
open PySem PySem.W PyProof.Rows PySem.Calls
set_option maxHeartbeats 4000000
namespace Mine
variable {w : World} {p : Program} {loose : List Str} {mean : ExcName → Option Value} {mg mb : Str → Option Value} {news : List (Addr × Obj)}
section
variable {dp un : Nat} {gd : Option (List Code)} {cn : Str} {cs : Scope} {a : Addr} {ccd : Value} {cl : List (Str × Addr)} {outer : List Env} {A₀ : Around} {base g : Heap} {L : Nat} {L₀ : Addr} {s s' : Shared}
open LCg in
theorem dr_3 (B : Below A₀ base (envX cn cs L₀ a ccd cl :: outer) g) (XX : (K w.params).In g) (T : Top p loose mean mg mb g) (hd : dp + 6 < recursionLimit) (hu : un + 10 * 6 < cLine)
    {led : Led} {h : Heap} {m : Str → Option Value} (F : Fr g L h m) (N : News g L h led) {Q : Flow → Shared → Prop} {E : Value → Shared → Prop}
    (hE : PassesOwn (model Pw w) ((ktrTop dp un gd cn cs L₀ a ccd cl outer).deeper (drEnv L)) (drEnv L) E)
    (hQ : ∀ D T ps h tk, Fr g L h (fun z => if z = Str.ofString "pairs" then some (.ref D) else m z) → News g L h ((D, lst ps) :: (T ++ led)) → Off1 D led → ps.length = 15 → PairsAt T ps → (∀ p ∈ T, ∀ q ∈ led, @LT.lt Nat _ q.1 p.1) → Q .next { s with heap := h, toks := tk }) :
    wpAny (model Pw w) ((ktrTop dp un gd cn cs L₀ a ccd cl outer).deeper (drEnv L)) (exec dr3.1 (drEnv L)) Q E { s with heap := h, toks := tk } := by
  dsimp only [drEnv, drScope, dr3]
  refine comp_setupA (h₀ := g) (L := L) (m := m) (cl := []) rfl (by with_unfolding_all rfl) (by with_unfolding_all rfl) (by decide) (by rfl) (by decide) (by rfl) (by rfl) ?_
  k_steps
  rename News _ _ _ _ => N9
  rename Fr _ _ _ _ => F9
  rename IsRange _ _ _ _ _ _ _ _ => hr
  refine wpAny_pyIter_range hr (by decide) ?_
  refine nest_run (n := 6) (led := led) rfl (by rfl) (by rfl) (by rfl) (by decide) (by intro _ _; rfl) (fun i k ys news' => ys.length = tri i + k ∧ k ≤ i ∧ ∃ T, news' = T ++ led ∧ PairsAt T ys ∧ ∀ p ∈ T, ∀ q ∈ led, @LT.lt Nat _ q.1 p.1) ?_ ?_ ?_ ?_ ?_ (F9.push _) (fun p hp => ⟨Heap.get?_push_of_some _ (N9 p (by first | exact hp | exact .tail _ hp)).1, (N9 p (by first | exact hp | exact .tail _ hp)).2⟩) (by show IsRangeIter _ _ _ _ _; rw [show Builtin.Range.rangeSize 0 6 1 = ((6 : Nat) : Int) by decide]; exact Heap.get?_push_size _ rfl) (fun p hp => Nat.ne_of_lt (Heap.lt_size (N9 p (by first | exact hp | exact .tail _ hp)).1)) (Nat.ne_of_lt F9.ns.lt) (next_is_new F9) ⟨rfl, by decide, [], rfl, (fun _ h => nomatch h), fun _ h => nomatch h⟩
  · rintro i ys news' hi ⟨h1, h2, h3⟩
    exact ⟨by rw [h1]; rfl, Nat.zero_le _, h3⟩
  · rintro i k ys news' hi hk ⟨h1, h2, h3⟩
    rw [h1, sizeLine_eq]
    have : tri i ≤ 15 := (by decide : ∀ d : Fin 6, tri d ≤ 15) ⟨i, hi⟩
    omega
  · rintro i ys news' I oI C oC D m₂ h' tk' t E' hi hJ hC hx F' N' off ne
    k_steps
    rename News _ _ _ (List.cons _ (List.cons _ (List.cons _ _))) => N9
    rename Fr _ _ _ _ => F9
    rename IsRange _ _ _ _ _ _ _ _ => hr
    refine wpAny_pyIter_range hr (smallN (by omega)) ⟨_, _, _, rfl, rfl, F9.push _, N9.grown (fun _ _ e => Heap.get?_push_of_some _ e), ?_, Nat.ne_of_lt F9.ns.lt, next_is_new F9, fun p hp => Nat.ne_of_lt (Heap.lt_size (N9 p hp).1)⟩
    show IsRangeIter _ _ _ _ _
    rw [sizeN (by omega)]; exact Heap.get?_push_size _ rfl
  · rintro i k ys news' I2 oI2 I oI C oC D m₂ h' tk' t u E' hi hk ⟨h1, h2, T2, rfl, hP, hT⟩ hC hx1 hx2 F' N' off off2 ne
    k_steps
    rename News _ _ _ (List.cons _ (List.cons _ (List.cons _ _))) => N9
    rename Fr _ _ _ _ => F9
    rename _ ∧ _ ∧ _ ∧ _ ∧ _ => ll
    obtain ⟨l1, l2, l3, l4, l5⟩ := ll
    refine ⟨_, _, (_, ({ cls := .type "tuple", data := .seq #[.int (k : Nat) u, .int (i : Nat) t] } : Obj)) :: (T2 ++ led), rfl, F9, fun p hp => N9 p ?_, ⟨⟨Nat.ne_of_gt l2, Nat.ne_of_gt l3, Nat.ne_of_gt l4⟩, off⟩, ⟨Nat.ne_of_gt l1, off2⟩, by rw [List.length_append, h1]; rfl, hk, (_, _) :: T2, rfl, fun y hy => ?_, fun p hp q hq => ?_⟩
    · simp only [List.mem_cons] at hp ⊢
      rcases hp with h | h | h | h | h | h
      · exact .inr (.inl h)
      · exact .inr (.inr (.inl h))
      · exact .inr (.inr (.inr (.inl h)))
      · exact .inr (.inr (.inr (.inr (.inl h))))
      · exact .inl h
      · exact .inr (.inr (.inr (.inr (.inr h))))
    · rcases List.mem_append.mp hy with hy | hy
      · obtain ⟨a, i, j, t, u, e, hm, r⟩ := hP y hy
        exact ⟨a, i, j, t, u, e, .tail _ hm, r⟩
      · cases List.mem_singleton.mp hy
        exact ⟨_, k, i, u, t, rfl, .head _, hk, hi⟩
    · rcases List.mem_cons.mp hp with rfl | hp
      · exact all_low l5 q (List.mem_append_right _ hq)
      · exact hT p hp q hq
  · rintro ys news' ⟨h1, h2, T2, rfl, hP, hT⟩ D h' tk' F' N' off
    refine hQ D T2 ys h' tk' F' N' (off1_of fun p hp => off1_mem off p (List.mem_append_right _ hp)) (by rw [h1]; rfl) hP hT
end

end Mine
end
theorem Mine.look25 : True := by first | (walk1; fail) | trivial
section
open PySem PySem.W PyProof.Rows PySem.Calls
set_option maxHeartbeats 4000000
namespace Mine
variable {w : World} {p : Program} {loose : List Str} {mean : ExcName → Option Value} {mg mb : Str → Option Value} {news : List (Addr × Obj)}
local macro_rules | `(tactic| walk_at "call builtin:len") => `(tactic| (k_here; k_dflt (refine' len_lst ?_; k_whole)))
local macro_rules | `(tactic| walk_at "eval ListComp") => `(tactic| (k_here; k_dflt (refine ListComp_V (h := ?_))))
local macro_rules | `(tactic| walk_at "exec Assign cons ListComp") => `(tactic| (k_here; k_dflt (refine Assign_ListComp_V (h := ?_))))
section
variable {dp un : Nat} {gd : Option (List Code)} {cn : Str} {cs : Scope} {a : Addr} {ccd : Value} {cl : List (Str × Addr)} {outer : List Env} {A₀ : Around} {base g : Heap} {L : Nat} {L₀ : Addr} {s s' : Shared}
open LCg in
theorem dr_2 (B : Below A₀ base (envX cn cs L₀ a ccd cl :: outer) g) (XX : (K w.params).In g) (T : Top p loose mean mg mb g) (hd : dp + 6 < recursionLimit) (hu : un + 10 * 6 < cLine)
    {sc : Addr} {bb : Int} (I : DrA g L s news sc bb s') {Q : Flow → Shared → Prop} {E : Value → Shared → Prop}
    (hE : PassesOwn (model Pw w) ((ktrTop dp un gd cn cs L₀ a ccd cl outer).deeper (drEnv L)) (drEnv L) E)
    (hQ : ∀ h tk m sl n ws zs o1 o2 o3 hl n2 ys, Fr g L h m → News g L h ((hl, listOf (List.toArray ys) n2) :: (sl, listOf (List.toArray ws) n) :: (L + 1 + 1 + 1, o3) :: (L + 1 + 1, o2) :: (L + 1, o1) :: news) → o1.data = .cell (some (.ref sl)) → o2.data = .cell (some (.ref hl)) → o3.data = .cell none →
      IntsAre ws zs → SumsOk bb zs → IntsAre ys (zs.map (· / 81)) → L + 1 + 1 + 1 < sl → @Ne Nat hl sl → @Ne Nat hl (L + 1 + 1 + 1) → @Ne Nat hl (L + 1 + 1) → @Ne Nat hl (L + 1) → Low L news → Q .next { s with heap := h, toks := tk }) :
    wpAny (model Pw w) ((ktrTop dp un gd cn cs L₀ a ccd cl outer).deeper (drEnv L)) (exec dr2.1 (drEnv L)) Q E s' := by
  obtain ⟨h, tk, m, sl, n, ws, zs, o1, o2, o3, rfl, F, N, c1, c2, c3, iz, ⟨z6, zb⟩, e1, l1, l2⟩ := I
  dsimp only [drEnv, drScope, dr2]
  have hw6 := IntsAre.length iz
  k_steps
  refine CompSrc.ledger rfl F (its := ws.toArray) (k := n) N (.head _) (by rw [List.size_toArray, sizeLine_eq]; omega) fun gg => ?_
  rw [show ws.toArray.size = 6 by rw [List.size_toArray, hw6, z6]]
  refine comp_go (n := 6) (fun i ys news' => news' = ((sl, listOf (List.toArray ws) n) :: (L + 1 + 1 + 1, o3) :: (L + 1 + 1, o2) :: (L + 1, o1) :: news) ∧ IntsAre ys ((zs.take i).map (· / 81))) ?_ ?_ 6 0 [] _ (by omega) ⟨rfl, .nil⟩
  · rintro i v ys news' I oI C oC D m₂ h' tk' E' hi' ⟨rfl, iy⟩ hv hC hx F' N' off ne
    rw [List.getElem?_toArray] at hv
    obtain ⟨z, t, rfl, hz⟩ := IntsAre.at iz i v hv
    have htk : zs.take (i + 1) = zs.take i ++ [z] := by rw [List.take_add_one, hz]; rfl
    k_steps
    refine CompEnd.intro F' N' _ (fun p hp => hp) off (Or.inr ⟨_, .head _, rfl, _, rfl⟩) ⟨rfl, ?_⟩
    rw [htk, List.map_append, List.map_singleton, ← Int.fdiv_eq_ediv_of_nonneg z (by decide)]
    exact IntsAre.append iy (.cons _ _ .nil)
  · rintro ys news' ⟨rfl, iy⟩ D h' tk' F' N' off
    rw [show zs.take 6 = zs from List.take_of_length_le (by omega)] at iy
    obtain ⟨d1, d2, d3, d4, _⟩ := off
    have d1' : @Ne Nat D sl := Ne.symm d1
    have d2' : @Ne Nat D (L + 1 + 1 + 1) := Ne.symm d2
    have d3' : @Ne Nat D (L + 1 + 1) := Ne.symm d3
    have d4' : @Ne Nat D (L + 1) := Ne.symm d4
    dsimp only
    k_steps
    rename News _ _ _ _ => N9
    rename Fr _ _ _ _ => F9
    exact hQ _ _ _ _ _ ws zs _ _ _ _ _ ys F9 N9 c1 (by assumption) c3 iz ⟨z6, zb⟩ iy l1 d1' d2' d3' d4' l2
end

end Mine
end
theorem Mine.look26 : True := by first | (walk1; fail) | trivial
section
open PySem PySem.W PyProof.Rows PySem.Calls
set_option maxHeartbeats 4000000
namespace Mine
variable {w : World} {p : Program} {loose : List Str} {mean : ExcName → Option Value} {mg mb : Str → Option Value} {news : List (Addr × Obj)}
local macro_rules | `(tactic| walk_at "call builtin:len") => `(tactic| (k_here; k_dflt (refine' len_lst ?_; k_whole)))
section
variable {dp un : Nat} {gd : Option (List Code)} {cn : Str} {cs : Scope} {a : Addr} {ccd : Value} {cl : List (Str × Addr)} {outer : List Env} {A₀ : Around} {base g : Heap} {L : Nat} {L₀ : Addr} {s s' : Shared}
theorem dr_1 (B : Below A₀ base (envX cn cs L₀ a ccd cl :: outer) g) (XX : (K w.params).In g) (T : Top p loose mean mg mb g) (hd : dp + 6 < recursionLimit) (hu : un + 10 * 6 < cLine)
    {sc : Addr} {vs : List Value} {ns : List Int} (hi : IntsAre vs ns) (hn : ns.length ≤ 63) (hP : g.IsList sc vs.toArray) (I : DrA g L s news sc 10000 s') {Q : Flow → Shared → Prop} {E : Value → Shared → Prop}
    (hE : PassesOwn (model Pw w) ((ktrTop dp un gd cn cs L₀ a ccd cl outer).deeper (drEnv L)) (drEnv L) E)
    (hQ : ∀ s'', DrA g L s news sc 19000000 s'' → Q .next s'') :
    wpAny (model Pw w) ((ktrTop dp un gd cn cs L₀ a ccd cl outer).deeper (drEnv L)) (exec dr1.1 (drEnv L)) Q E s' := by
  obtain ⟨h, tk, m, sl, n, ws, zs, o1, o2, o3, rfl, F, N, c1, c2, c3, iz, ⟨z6, zb⟩, e1, l1, l2⟩ := I
  dsimp only [drEnv, drScope, dr1]
  have hlen := IntsAre.length hi
  refine for_led (s₀ := s) (h₀ := g) (fun k m led => ∃ n ws zs, led = ((sl, listOf (List.toArray ws) n) :: (L + 1 + 1 + 1, o3) :: (L + 1 + 1, o2) :: (L + 1, o1) :: news) ∧ IntsAre ws zs ∧ SumsOk (10000 + k * 1000000) zs ∧ m "script" = some (.ref sc)) (min 18 ns.length) (fun i v => ∃ t, v = .int (0 + i) t) ?_ ?_ ?_ (hE := hE)
  · k_steps
    have hC := (by assumption : (List.take 18 ns).length = min 18 ns.length)
    rename News _ _ _ _ => N9
    rename Fr _ _ _ _ => F9
    refine ready_range (a₀ := 0) _ rfl (by assumption) (smallN (by omega)) (by rw [sizeN (by omega), hC]) F9 (fun q hq => N9 q (.tail _ hq)) ⟨n, ws, zs, rfl, iz, ⟨z6, fun z hz => by have := zb z hz; omega⟩, e1⟩ ⟨rfl, rfl, rfl⟩
  rotate_left
  · rintro m₁ led hh tkk ⟨n₁, ws₁, zs₁, rfl, iz₁, ⟨z6, zb⟩, e1⟩ F1 N1
    exact hQ _ ⟨_, _, m₁, sl, n₁, ws₁, zs₁, o1, o2, o3, rfl, F1, N1, c1, c2, c3, iz₁, ⟨z6, fun z hz => by have := zb z hz; omega⟩, e1, l1, l2⟩
  clear F N iz z6 zb e1
  rintro k v m₁ led hh tkk I₁ o₁ hk ⟨t, rfl⟩ ⟨n₁, ws₁, zs₁, rfl, iz₁, ⟨z6, zb⟩, e1⟩ F1 N1 hI1
  rw [Int.zero_add] at F1
  have i1 : @Ne Nat sl I₁ := hI1 (sl, _) (.head _)
  have hw6 := IntsAre.length iz₁
  have q6 : ∀ _ : Unit, (k : Int).fmod 6 = ((k % 6 : Nat) : Int) := fun _ => fmodN k 6
  have r0 : 0 ≤ (k : Int).fmod 6 := Int.fmod_nonneg_of_pos _ (by decide)
  have r6 : (k : Int).fmod 6 < 6 := Int.fmod_lt_of_pos _ (by decide)
  k_steps
  rename News _ _ _ _ => N9
  rename Fr _ _ _ _ => F9
  have hs := sums_get ⟨z6, zb⟩ (i := ((k : Int).fmod 6).toNat) (by rw [q6 ()]; exact Nat.mod_lt k (by decide))
  have hm0 : 0 ≤ (ns.getD ((k : Nat) : Int).toNat 0).fmod (10 ^ Int.toNat 6) := Int.fmod_nonneg_of_pos _ (by decide)
  have hm1 : (ns.getD ((k : Nat) : Int).toNat 0).fmod (10 ^ Int.toNat 6) < 1000000 := Int.fmod_lt_of_pos _ (by decide)
  refine ⟨_, _, _, _, rfl, F9, N9, ?_, _, _, _, rfl, ints_set _ iz₁, sums_set _ ⟨z6, zb⟩ (by omega) (by omega) (by omega), by with_unfolding_all exact e1⟩
  intro q hq
  rcases List.mem_cons.mp hq with rfl | hq
  · exact i1
  · exact hI1 q (.tail _ hq)
end

end Mine
end
theorem Mine.look27 : True := by first | (walk1; fail) | trivial
section
open PySem PySem.W PyProof.Rows PySem.Calls
set_option maxHeartbeats 4000000
namespace Mine
variable {w : World} {p : Program} {loose : List Str} {mean : ExcName → Option Value} {mg mb : Str → Option Value} {news : List (Addr × Obj)}
local macro_rules | `(tactic| walk_at "eval ListComp") => `(tactic| (k_here; k_dflt (refine ListComp_V (h := ?_))))
local macro_rules | `(tactic| walk_at "exec Assign cons ListComp") => `(tactic| (k_here; k_dflt (refine Assign_ListComp_V (h := ?_))))
noncomputable def DrPost (news : Led) (v : Value) (news' : Led) : Prop :=
  ∃ al T rs zs i j, v = .ref al ∧ news' = (al, LCg.lst rs) :: (news ++ T) ∧ RowsAre T rs (drRows zs i j) ∧ SumsOk 19000000 zs ∧ i < j ∧ j < 6 ∧ (∀ q ∈ news, @Ne Nat q.1 al) ∧ (∀ p ∈ T, ∀ q ∈ news, @LT.lt Nat _ q.1 p.1)
open LCg in
theorem c_drawn (sc : Addr) {vs : List Value} {ns : List Int} (hi : IntsAre vs ns) (hn : ns.length ≤ 63) :
    ClaimP (fun h => h.IsList sc vs.toArray) w p loose mean mg mb 8 202 [.ref sc] news (DrPost news) := by
  intro dp un gd cn cs a ccd cl outer A₀ base h₀ L m s R hP B F XX N T hk hd hu hret
  k_dflt cell_enter
  rename_i gp Lp hp tkp FGp F0 Bp Xp Tp lowp bigp o3 o2 o1 d3 d2 d1 N0
  replace d3 : o3.data = .cell none := d3.trans (by kernel_rfl)
  replace d2 : o2.data = .cell none := d2.trans (by kernel_rfl)
  replace d1 : o1.data = .cell none := d1.trans (by kernel_rfl)
  have hP' := Fr.lst FGp hP
  clear F N B XX T hP
  refine execs_mid 1 (DrA gp Lp s news sc 10000) ?_ ?_
  · show wpAny _ _ (execs [_] _) _ _ _
    k_steps
    rename Fr _ _ _ _ => F9
    rename News _ _ _ _ => N9
    refine ⟨_, _, _, _, _, [_, _, _, _, _, _], [2311, 9023, 6849, 4669, 5704, 3046], _, _, _, rfl, F9, N9, ?_, d2, d3, ?_, ⟨rfl, by decide⟩, by with_unfolding_all rfl, ?_, lowp⟩
    · assumption
    · repeat (first | exact .nil | refine .cons _ _ ?_)
    · omega
  · intro s' hst
    dsimp only [List.drop]
    refine wpAny_execs_cons ?_
    refine dr_1 (dp := dp) (un := un) Bp Xp Tp (by omega) (by omega) hi hn hP' hst (by passes_own) fun s'' h => ?_
    dsimp only
    refine wpAny_execs_cons ?_
    refine dr_2 (dp := dp) (un := un) Bp Xp Tp (by omega) (by omega) h (by passes_own) fun h1 tk1 m1 sl n1 ws zs o1 o2 o3 hl n2 ys F1 N1 c1 c2 c3 iz hz iy l1 e1 e2 e3 e4 l2 => ?_
    dsimp only
    refine wpAny_execs_cons ?_
    refine dr_3 (dp := dp) (un := un) Bp Xp Tp (by omega) (by omega) F1 N1 (by passes_own) fun D T ps h3 tk3 F3 N3 o13 hps hP3 hT3 => ?_
    dsimp only
    refine wpAny_execs_cons ?_
    have N3' : News gp Lp h3 ((D, lst ps) :: (hl, listOf (List.toArray ys) n2) :: (sl, listOf (List.toArray ws) n1) :: (Lp + 1 + 1 + 1, o3) :: (Lp + 1 + 1, o2) :: (Lp + 1, o1) :: (news ++ T)) := fun p hp => N3 p (by
      simp only [List.mem_cons, List.mem_append] at hp ⊢
      rcases hp with h | h | h | h | h | h | h | h
      · exact .inl h
      · exact .inr (.inr (.inl h))
      · exact .inr (.inr (.inr (.inl h)))
      · exact .inr (.inr (.inr (.inr (.inl h))))
      · exact .inr (.inr (.inr (.inr (.inr (.inl h)))))
      · exact .inr (.inr (.inr (.inr (.inr (.inr (.inl h))))))
      · exact .inr (.inr (.inr (.inr (.inr (.inr (.inr h))))))
      · exact .inr (.inl h))
    obtain ⟨f1, f2, f3, f4, f5, f6⟩ := o13
    refine dr_4 (dp := dp) (un := un) Bp Xp Tp (by omega) (by omega) F3 N3' c1 c2 c3 iy hz hps (by with_unfolding_all rfl) (Ne.symm f3) e2 (Nat.ne_of_gt l1) (fun p hp => ?_) (by passes_own) fun o4 y h4 tk4 F4 N4 c4 hy => ?_
    · rcases List.mem_append.mp hp with hp | hp
      · exact Nat.ne_of_lt (Nat.lt_trans (l2 p hp) (by omega))
      · exact Nat.ne_of_gt (hT3 p hp (Lp + 1 + 1 + 1, o3) (.tail _ (.tail _ (.head _))))
    dsimp only
    obtain ⟨pa, i, j, t1, t2, rfl, hmp, hij, hj⟩ := hP3 y hy
    have N4' : News gp Lp h4 ((pa, { cls := .type "tuple", data := .seq #[.int (i : Nat) t1, .int (j : Nat) t2] }) :: (hl, listOf (List.toArray ys) n2) :: (sl, listOf (List.toArray ws) n1) :: (Lp + 1 + 1 + 1, o4) :: (Lp + 1 + 1, o2) :: (Lp + 1, o1) :: news) := fun p hp => N4 p (by
      rcases List.mem_cons.mp hp with rfl | hp
      · exact .tail _ (.tail _ (.tail _ (.tail _ (.tail _ (.tail _ (List.mem_append_right _ hmp))))))
      · simp only [List.mem_cons, List.mem_append] at hp ⊢
        rcases hp with h | h | h | h | h | h
        · exact .inr (.inl h)
        · exact .inr (.inr (.inl h))
        · exact .inr (.inr (.inr (.inl h)))
        · exact .inr (.inr (.inr (.inr (.inl h))))
        · exact .inr (.inr (.inr (.inr (.inr (.inl h)))))
        · exact .inr (.inr (.inr (.inr (.inr (.inr (.inl h)))))))
    refine wpAny_execs_cons ?_
    refine dr_5 (dp := dp) (un := un) Bp Xp Tp (by omega) (by omega) F4 N4' c1 c2 c4 iz iy hz hij hj (by passes_own) fun D5 T5 rs h5 tk5 F5 N5 hR hD5 hT5 => ?_
    dsimp only
    refine leaveK_ F5 N5 fun kF kN => hret _ _ _ _ ⟨D5, T5, rs, zs, i, j, rfl, rfl, hR, hz, hij, hj, hD5, fun p hp q hq => Nat.lt_trans (l2 q hq) (Nat.lt_trans (by omega) (hT5 p hp))⟩ kF kN

end Mine
end
theorem Mine.look28 : True := by first | (walk1; fail) | trivial
section
local macro_rules | `(tactic| ktr_rel) => `(tactic| first | with_reducible assumption | (with_reducible first | exact Bd.mul | exact Bd.add | exact Bd.sub | exact Bd.neg | solve_by_elim) | exact bdc)
local macro_rules | `(tactic| walk_at "binaryOp Mult int int") => `(tactic| (with_reducible first | refine mul_e ?_ Bd.ok | refine mul_e ?_ Bd.okr))
local macro_rules | `(tactic| walk_at "call ref") => `(tactic| (k_here; k_dflt ((first | ((with_reducible refine atR 183 ?_); refine Claim.goI c_imul ?_) | ((with_reducible refine atR 190 ?_); refine Claim.goI c_isub ?_) | ((with_reducible refine atR 176 ?_); refine Claim.goI c_iadd ?_) | ((with_reducible refine atR 155 ?_); refine Claim.goI c_neg ?_)); k_whole; intros; (try dsimp only))))
local macro_rules | `(tactic| walk_at "subscriptTail Name Subscript ref int") => `(tactic| (k_here; with_unfolding_all (refine item_e ?_; k_whole); intro _))
local macro_rules | `(tactic| walk_at "subscriptTail Name Name ref int") => `(tactic| (k_here; first | with_unfolding_all (refine lit_e ?_; k_whole) | (with_unfolding_all (refine item_e ?_; k_whole); intro _)))
section
open PySem PySem.W PyProof.Rows PySem.Calls
set_option maxHeartbeats 4000000
namespace Mine
variable {w : World} {p : Program} {loose : List Str} {mean : ExcName → Option Value} {mg mb : Str → Option Value} {news : List (Addr × Obj)}
--OPS
noncomputable def zf (zs : List Int) (i : Int) : Int := zs.getD i.toNat 0
noncomputable def askedH (z : Int → Int) (i j k l : Int) : Int := -((j - i) * (k - i) * (k - j) * z l - ((j - i) * (l - i) * (l - j) * z k - ((k - i) * (l - i) * (l - k) * z j - ((k - j) * (l - j) * (l - k) * z i - 0))))
noncomputable def askedW (i j k l : Int) : Int := 0 + (k - j) * (l - j) * (l - k) + (k - i) * (l - i) * (l - k) + (j - i) * (l - i) * (l - j) + (j - i) * (k - i) * (k - j)
noncomputable def askedS (i j k : Int) : Int := (j - i) * (k - i) * (k - j)
theorem news_sub {h₀ h : Heap} {L : Addr} {led led' : Led} (N : News h₀ L h led) (e : ∀ q ∈ led', q ∈ led) : News h₀ L h led' := fun q hq => N q (e q hq)
theorem rot {h₀ h : Heap} {L : Addr} {x y z : Addr × Obj} {led : Led} (N : News h₀ L h (x :: y :: z :: led)) : News h₀ L h (y :: z :: x :: led) := fun q hq => N q (by
  rcases List.mem_cons.mp hq with rfl | hq
  · exact .tail _ (.head _)
  rcases List.mem_cons.mp hq with rfl | hq
  · exact .tail _ (.tail _ (.head _))
  rcases List.mem_cons.mp hq with rfl | hq
  · exact .head _
  · exact .tail _ (.tail _ (.tail _ hq)))
theorem unrot {h₀ h : Heap} {L : Addr} {x y z : Addr × Obj} {led : Led} (N : News h₀ L h (y :: z :: x :: led)) : News h₀ L h (x :: y :: z :: led) := rot (rot N)
noncomputable def bodyOf : Stmt → List Stmt
  | .For _ _ b _ _ => b
  | _ => []
noncomputable def asScope : { x : Scope // x = dScope (st 25) } := ⟨⟨_, _, _, _, _⟩, rfl⟩
noncomputable abbrev asEnv (L : Addr) : Env := envOf (Str.ofString "_law_asked") asScope.1 L 228 (.ref 227)
noncomputable def as0 : { x : Stmt // x = nth (bodyOf (nth (dBody (st 25)) 1)) 0 } := ⟨.Assign [.Tuple _ _ _] _ _, rfl⟩
noncomputable def as1 : { x : Stmt // x = nth (bodyOf (nth (dBody (st 25)) 1)) 1 } := ⟨.Assign [.Name _ _] _ _, rfl⟩
noncomputable def as2 : { x : Stmt // x = nth (bodyOf (nth (dBody (st 25)) 1)) 2 } := ⟨.Assign [.Name _ _] _ _, rfl⟩
noncomputable def as3 : { x : Stmt // x = nth (bodyOf (nth (dBody (st 25)) 1)) 3 } := ⟨.Assign [.Name _ _] _ _, rfl⟩
structure AsAt (an af : Addr) (H W S : Int) (m : Str → Option Value) : Prop where
  e1 : m "numbers" = some (.ref an)
  e2 : m "four" = some (.ref af)
  e3 : ∃ t, m "height" = some (.int H t)
  e4 : ∃ t, m "whole" = some (.int W t)
  e5 : ∃ t, m "weight" = some (.int S t)
theorem AsAt.set {an af : Addr} {H W S : Int} {m : Str → Option Value} (b : AsAt an af H W S m) {v : Option Value} : AsAt an af H W S (fun y => if y = "k" then v else m y) := by
  obtain ⟨a1, a2, ⟨t3, a3⟩, ⟨t4, a4⟩, ⟨t5, a5⟩⟩ := b
  exact ⟨(if_neg (by decide)).trans a1, (if_neg (by decide)).trans a2, ⟨t3, (if_neg (by decide)).trans a3⟩, ⟨t4, (if_neg (by decide)).trans a4⟩, ⟨t5, (if_neg (by decide)).trans a5⟩⟩
theorem use_fr {g h : Heap} {L : Addr} {m : Str → Option Value} {P : (Str → Option Value) → Prop} {G : Prop} (F : Fr g L h m) (hp : P m) (k : ∀ m, Fr g L h m → P m → G) : G := k m F hp
noncomputable def asNext (z : Int → Int) (lo mi hi x : Int) (q : Int × Int × Int) : Int × Int × Int := ((mi - lo) * (hi - lo) * (hi - mi) * z x - q.1, q.2.1 + (mi - lo) * (hi - lo) * (hi - mi), (mi - lo) * (hi - lo) * (hi - mi))
noncomputable def asN (z : Int → Int) (i j k l : Int) : Nat → Int × Int × Int
  | 0 => (0, 0, 0)
  | 1 => asNext z j k l i (0, 0, 0)
  | 2 => asNext z i k l j (asNext z j k l i (0, 0, 0))
  | 3 => asNext z i j l k (asNext z i k l j (asNext z j k l i (0, 0, 0)))
  | _ => asNext z i j k l (asNext z i j l k (asNext z i k l j (asNext z j k l i (0, 0, 0))))
section
variable {dp un : Nat} {gd : Option (List Code)} {cn : Str} {cs : Scope} {a : Addr} {ccd : Value} {cl : List (Str × Addr)} {outer : List Env} {A₀ : Around} {base g : Heap} {L : Nat} {L₀ : Addr} {s : Shared}
local macro_rules | `(tactic| kl_lit) => `(tactic| assumption)
local macro_rules | `(tactic| kl_room) => `(tactic| assumption)
/-- one turn of _law_asked's loop: the place k of four is left out -/
theorem ask_turn (B : Below A₀ base (envX cn cs L₀ a ccd cl :: outer) g) (XX : (K w.params).In g) (T : Top p loose mean mg mb g) (hd : dp + 5 < recursionLimit) (hu : un + 10 * 5 < cLine)
    {an af : Addr} {nn nf : Nat} {vs : List Value} {zs : List Int} (hzv : IntsAre vs zs) (hz : zs.length = 6) (hzb : ∀ n, Bd 6 (zs.getD n 0)) {i j k l : Int} {ta tb tc td : Tok} {R : Led}
    {kk x lo mi hi H W S : Int} {z1 z2 : List Value} {t1 t2 t3 t4 tk : Tok} (hk0 : 0 ≤ kk) (hk4 : kk < 2 ^ 63) (e1 : kms_pick (#[.int i ta, .int j tb, .int k tc, .int l td] : Array Value).toList none (some kk) = z1) (e2 : kms_pick (#[.int i ta, .int j tb, .int k tc, .int l td] : Array Value).toList (some (kk + 1)) none = z2)
    (e3 : z1.toArray.toList ++ z2.toArray.toList = [.int lo t1, .int mi t2, .int hi t3]) (e4 : z1.toArray.toList.length + z2.toArray.toList.length ≤ sizeLine) (e5 : [Value.int i ta, .int j tb, .int k tc, .int l td][kk.toNat]? = some (.int x t4)) (b1 : Bd 3 lo) (b2 : Bd 3 mi) (b3 : Bd 3 hi) (hx0 : 0 ≤ x) (hx : x < 6)
    {h : Heap} {tkk : Nat} {m : Str → Option Value} (F : Fr g L h m) (N : News g L h ((an, listOf vs.toArray nn) :: (af, listOf #[.int i ta, .int j tb, .int k tc, .int l td] nf) :: R)) (hm : AsAt an af H W S m) (ek : m "k" = some (.int kk tk))
    {Q : Flow → Shared → Prop} {E : Value → Shared → Prop}
    (hE : PassesOwn (model Pw w) ((ktrTop dp un gd cn cs L₀ a ccd cl outer).deeper (asEnv L)) (asEnv L) E)
    (hQ : ∀ h tk m', Fr g L h m' → News g L h ((an, listOf vs.toArray nn) :: (af, listOf #[.int i ta, .int j tb, .int k tc, .int l td] nf) :: R) →
      AsAt an af ((mi - lo) * (hi - lo) * (hi - mi) * zf zs x - H) (W + (mi - lo) * (hi - lo) * (hi - mi)) ((mi - lo) * (hi - lo) * (hi - mi)) m' → Q .next { s with heap := h, toks := tk }) :
    wpAny (model Pw w) ((ktrTop dp un gd cn cs L₀ a ccd cl outer).deeper (asEnv L)) (execs [as0.1, as1.1, as2.1, as3.1] (asEnv L)) Q E { s with heap := h, toks := tkk } := by
  obtain ⟨n1, n2, ⟨u3, n3⟩, ⟨u4, n4⟩, ⟨u5, n5⟩⟩ := hm
  dsimp only [asEnv, asScope, as0, as1, as2, as3]
  k_steps
  rename News _ _ _ _ => N9
  rename Fr _ _ _ _ => F9
  exact hQ _ _ _ F9 (fun q hq => N9 q (.tail _ (.tail _ (.tail _ hq)))) ⟨by with_unfolding_all exact n1, by with_unfolding_all exact n2, ⟨_, by with_unfolding_all rfl⟩, ⟨_, by with_unfolding_all rfl⟩, ⟨_, by with_unfolding_all rfl⟩⟩
end
theorem c_asked (an af : Addr) (nn nf : Nat) (vs : List Value) (zs : List Int) (hzv : IntsAre vs zs) (hz : zs.length = 6) (hzb : ∀ n, Bd 6 (zs.getD n 0)) (i j k l : Int) (ta tb tc td : Tok) (h0 : 0 ≤ i) (h1 : i < j) (h2 : j < k) (h3 : k < l) (h4 : l < 6) :
    Claim w p loose mean mg mb 5 228 [.ref an, .ref af] ((an, listOf vs.toArray nn) :: (af, listOf #[.int i ta, .int j tb, .int k tc, .int l td] nf) :: news)
      (fun v n' => ∃ a t1 t2 t3, v = .ref a ∧ n' = (a, { cls := .type "tuple", data := .seq #[.int (askedH (zf zs) i j k l) t1, .int (askedW i j k l) t2, .int (askedS i j k) t3] }) :: (an, listOf vs.toArray nn) :: (af, listOf #[.int i ta, .int j tb, .int k tc, .int l td] nf) :: news ∧
        ∀ q ∈ ((an, listOf vs.toArray nn) :: (af, listOf #[.int i ta, .int j tb, .int k tc, .int l td] nf) :: news), q.1 < a) := by
  intro dp un gd cn cs a ccd cl outer A₀ base h₀ L m s R B F XX N T hk hd hu hret
  obtain ⟨⟨j0, k0, l0⟩, i6, j6, k6⟩ := ord4 h0 h1 h2 h3 h4
  have b1 := bd6 h0 i6
  have b2 := bd6 j0 j6
  have b3 := bd6 k0 k6
  have b4 := bd6 l0 h4
  k_dflt cell_enter
  refine execs_cut 1 ?_
  show wpAny _ _ (execs [_] _) _ _ _
  k_steps
  show Cut _
  unfold Cut
  rename Fr _ _ _ _ => F9
  rename News _ _ _ _ => N9
  rename Below _ _ _ _ => B9
  rename Frag.In _ _ => X9
  rename Top _ _ _ _ _ _ => T9
  rename_i g9 L9 h9 tk9 FG9 low9 big9 D9 hA lt9 hx1 hx2 tz1 hx3 tz2 hB tz3
  refine use_fr (P := AsAt an af 0 0 0) F9 ⟨by with_unfolding_all rfl, by with_unfolding_all rfl, ⟨_, by with_unfolding_all rfl⟩, ⟨_, by with_unfolding_all rfl⟩, ⟨_, by with_unfolding_all rfl⟩⟩ ?_
  intro m9 F8 hm
  clear F9
  refine wpAny_execs_cons ?_
  refine for_led (s₀ := s) (h₀ := g9) (fun n m led => led = ((an, listOf vs.toArray nn) :: (af, listOf #[.int i ta, .int j tb, .int k tc, .int l td] nf) :: news) ∧ AsAt an af (asN (zf zs) i j k l n).1 (asN (zf zs) i j k l n).2.1 (asN (zf zs) i j k l n).2.2 m) 4 (fun i v => ∃ t, v = .int (0 + i) t) ?_ ?_ ?_
  · k_steps
    exact ready_range (a₀ := 0) _ rfl (by assumption) (by decide) (by decide) (by k_asm) (by rename News _ _ _ _ => N7; exact fun q hq => N7 q (by first | exact .tail _ hq | exact .tail _ (.tail _ hq))) ⟨rfl, hm⟩ ⟨rfl, rfl, rfl⟩
  · rintro n v m₁ led hh tkk I o hlt ⟨t, rfl⟩ ⟨rfl, hm⟩ F1 N1 hI
    have ek : (fun y => if y = Str.ofString "k" then some (Value.int (0 + n) t) else m₁ y) "k" = some (.int (0 + n) t) := if_pos rfl
    replace hm := hm.set (v := some (.int (0 + n) t))
    revert F1 hm ek
    generalize (fun y => if y = Str.ofString "k" then some (Value.int (0 + n) t) else m₁ y) = m₂
    intro F1 ek hm
    rcases lt4 hlt with rfl | rfl | rfl | rfl
    · exact ask_turn (tk := t) B9 X9 T9 hd hu hzv hz hzb (by decide) (by decide) rfl rfl rfl (Nat.le_of_ble_eq_true rfl) rfl b2 b3 b4 h0 i6 F1 (rot N1) hm ek (by passes_own) fun h tk m' F N hm' => ⟨h, tk, m', _, rfl, F, unrot N, hI, rfl, hm'⟩
    · exact ask_turn (tk := t) B9 X9 T9 hd hu hzv hz hzb (by decide) (by decide) rfl rfl rfl (Nat.le_of_ble_eq_true rfl) rfl b1 b3 b4 j0 j6 F1 (rot N1) hm ek (by passes_own) fun h tk m' F N hm' => ⟨h, tk, m', _, rfl, F, unrot N, hI, rfl, hm'⟩
    · exact ask_turn (tk := t) B9 X9 T9 hd hu hzv hz hzb (by decide) (by decide) rfl rfl rfl (Nat.le_of_ble_eq_true rfl) rfl b1 b2 b4 k0 k6 F1 (rot N1) hm ek (by passes_own) fun h tk m' F N hm' => ⟨h, tk, m', _, rfl, F, unrot N, hI, rfl, hm'⟩
    · exact ask_turn (tk := t) B9 X9 T9 hd hu hzv hz hzb (by decide) (by decide) rfl rfl rfl (Nat.le_of_ble_eq_true rfl) rfl b1 b2 b3 l0 h4 F1 (rot N1) hm ek (by passes_own) fun h tk m' F N hm' => ⟨h, tk, m', _, rfl, F, unrot N, hI, rfl, hm'⟩
  · rintro m₁ led hh tkk ⟨rfl, hm⟩ F1 N1
    obtain ⟨n1, n2, ⟨u3, n3⟩, ⟨u4, n4⟩, ⟨u5, n5⟩⟩ := hm
    dsimp only
    k_steps
    rename News _ _ _ _ => N7
    rename _ ∧ _ => l7
    exact hret _ _ _ _ ⟨_, _, _, _, rfl, rfl, List.forall_mem_cons.mpr ⟨l7.1, List.forall_mem_cons.mpr ⟨l7.2.1, all_low l7.2.2⟩⟩⟩ (by k_asm) (fun q hq => N7 q hq)
section
variable {dp un : Nat} {gd : Option (List Code)} {cn : Str} {cs : Scope} {a : Addr} {ccd : Value} {cl : List (Str × Addr)} {outer : List Env} {A₀ : Around} {base h₀ : Heap} {L : Addr} {m : Str → Option Value} {s : Shared} {Q E : Value → Shared → Prop}
theorem ask_rule {an af : Addr} {nn nf : Nat} {vs : List Value} {zs : List Int} {i j k l : Int} {ta tb tc td : Tok} {c₀ : Addr} {o₀ : Obj} {R : Led}
    (ret : ∀ (a' : Addr) (t1 t2 t3 : Tok) (h' : Heap) (tk' : Nat), Fr h₀ L h' m → News h₀ L h' ((a', { cls := .type "tuple", data := .seq #[.int (askedH (zf zs) i j k l) t1, .int (askedW i j k l) t2, .int (askedS i j k) t3] }) :: (an, listOf vs.toArray nn) :: (af, listOf #[.int i ta, .int j tb, .int k tc, .int l td] nf) :: (c₀, o₀) :: R) → c₀ < a' → a' ≠ c₀ → Q (.ref a') { s with heap := h', toks := tk' })
    (N : News h₀ L s.heap ((an, listOf vs.toArray nn) :: (af, listOf #[.int i ta, .int j tb, .int k tc, .int l td] nf) :: (c₀, o₀) :: R) := by k_asm) (hi : IntsAre vs zs := by assumption) (hz : zs.length = 6 := by assumption) (hb : ∀ n, Bd 6 (zs.getD n 0) := by assumption) (h0 : 0 ≤ i := by first | assumption | omega) (h1 : i < j := by first | assumption | omega) (h2 : j < k := by first | assumption | omega) (h3 : k < l := by first | assumption | omega) (h4 : l < 6 := by first | assumption | omega)
    (B : Below A₀ base outer h₀ := by k_asm) (F : Fr h₀ L s.heap m := by k_asm) (X : (K w.params).In h₀ := by k_asm) (T : Top p loose mean mg mb h₀ := by k_asm) (hk : cs.kind = .function := by rfl) (hd : dp + 5 < recursionLimit := by walk_at "zz room") (hu : un + 10 * 5 < cLine := by walk_at "zz room") :
    wpAny (model Pw w) (ktrTop dp un gd cn cs L a ccd cl outer) (call (.ref 228) [.ref an, .ref af]) Q E s :=
  (c_asked an af nn nf vs zs hi hz hb i j k l ta tb tc td h0 h1 h2 h3 h4).use B F X N T hk hd hu fun v n' h' tk' hp F' N' => hp.elim fun a' hp => hp.elim fun t1 hp => hp.elim fun t2 hp => hp.elim fun t3 hp => hp.1 ▸ ret a' t1 t2 t3 h' tk' F' (hp.2.1 ▸ N') (hp.2.2 (c₀, o₀) (.tail _ (.tail _ (.head _)))) (Nat.ne_of_gt (hp.2.2 (c₀, o₀) (.tail _ (.tail _ (.head _)))))
end

end Mine
end
theorem Mine.look29 : True := by first | (walk1; fail) | trivial
section
open PySem PySem.W PyProof.Rows PySem.Calls
set_option maxHeartbeats 4000000
namespace Mine
variable {w : World} {p : Program} {loose : List Str} {mean : ExcName → Option Value} {mg mb : Str → Option Value} {news : List (Addr × Obj)}
--OPS
noncomputable def missedV (z : Int → Int) (i j k h w p : Int) : Int := (j - i) * (k - i) * (k - j) * w * z p - ((w * z i - h) * (p - j) * (p - k) * (k - j) - (w * z j + h) * (p - i) * (p - k) * (k - i) + (w * z k - h) * (p - i) * (p - j) * (j - i))
theorem c_missed (an af : Addr) (nn nf : Nat) (vs : List Value) (zs : List Int) (hzv : IntsAre vs zs) (hz : zs.length = 6) (hzb : ∀ n, Bd 6 (zs.getD n 0)) (i j k l h' w' q : Int) (ta tb tc td th tw tq : Tok) (h0 : 0 ≤ i) (h1 : i < j) (h2 : j < k) (h3 : k < l) (h4 : l < 6) (bh : Bd 20 h') (bw : Bd 12 w') (hq0 : 0 ≤ q) (hq : q < 6) :
    Claim w p loose mean mg mb 5 235 [.ref an, .ref af, .int h' th, .int w' tw, .int q tq] ((an, listOf vs.toArray nn) :: (af, listOf #[.int i ta, .int j tb, .int k tc, .int l td] nf) :: news)
      (IsI (missedV (zf zs) i j k h' w' q) ((an, listOf vs.toArray nn) :: (af, listOf #[.int i ta, .int j tb, .int k tc, .int l td] nf) :: news)) := by
  intro dp un gd cn cs a ccd cl outer A₀ base h₀ L m s R B F XX N T hk hd hu hret
  obtain ⟨⟨j0, k0, l0⟩, i6, j6, k6⟩ := ord4 h0 h1 h2 h3 h4
  have b1 := bd6 h0 i6
  have b2 := bd6 j0 j6
  have b3 := bd6 k0 k6
  have b4 := bd6 hq0 hq
  k_dflt cell_enter
  refine opq (by passes_own) ?_
  intro Q9 E9 hQ9 hE9
  show wpAny _ _ (execs (_ :: _) _) _ _ _
  k_steps
  refine hQ9 _ _ ?_
  try dsimp only
  k_steps
  rename News _ _ _ _ => N9
  exact hret _ _ _ _ ⟨⟨_, rfl⟩, rfl⟩ (by k_asm) (fun q hq => N9 q (by repeat (first | exact hq | refine .tail _ ?_)))
section
variable {dp un : Nat} {gd : Option (List Code)} {cn : Str} {cs : Scope} {a : Addr} {ccd : Value} {cl : List (Str × Addr)} {outer : List Env} {A₀ : Around} {base h₀ : Heap} {L : Addr} {m : Str → Option Value} {s : Shared} {Q E : Value → Shared → Prop}
theorem miss_rule {an af : Addr} {nn nf : Nat} {vs : List Value} {zs : List Int} {i j k l hh w' q : Int} {ta tb tc td th tw tq : Tok} {R : Led}
    (ret : ∀ (t : Tok) (h' : Heap) (tk' : Nat), Fr h₀ L h' m → News h₀ L h' ((an, listOf vs.toArray nn) :: (af, listOf #[.int i ta, .int j tb, .int k tc, .int l td] nf) :: R) → Q (.int (missedV (zf zs) i j k hh w' q) t) { s with heap := h', toks := tk' })
    (N : News h₀ L s.heap ((an, listOf vs.toArray nn) :: (af, listOf #[.int i ta, .int j tb, .int k tc, .int l td] nf) :: R) := by k_asm) (hi : IntsAre vs zs := by assumption) (hz : zs.length = 6 := by assumption) (hb : ∀ n, Bd 6 (zs.getD n 0) := by assumption) (h0 : 0 ≤ i := by first | assumption | omega) (h1 : i < j := by first | assumption | omega) (h2 : j < k := by first | assumption | omega) (h3 : k < l := by first | assumption | omega) (h4 : l < 6 := by first | assumption | omega) (bh : Bd 20 hh := by assumption) (bw : Bd 12 w' := by assumption) (q0 : 0 ≤ q := by first | assumption | omega) (q1 : q < 6 := by first | assumption | omega)
    (B : Below A₀ base outer h₀ := by k_asm) (F : Fr h₀ L s.heap m := by k_asm) (X : (K w.params).In h₀ := by k_asm) (T : Top p loose mean mg mb h₀ := by k_asm) (hk : cs.kind = .function := by rfl) (hd : dp + 5 < recursionLimit := by walk_at "zz room") (hu : un + 10 * 5 < cLine := by walk_at "zz room") :
    wpAny (model Pw w) (ktrTop dp un gd cn cs L a ccd cl outer) (call (.ref 235) [.ref an, .ref af, .int hh th, .int w' tw, .int q tq]) Q E s :=
  (c_missed an af nn nf vs zs hi hz hb i j k l hh w' q ta tb tc td th tw tq h0 h1 h2 h3 h4 bh bw q0 q1).useI B F X N T hk hd hu ret
end

end Mine
end
theorem Mine.look30 : True := by first | (walk1; fail) | trivial
section
open PySem PySem.W PyProof.Rows PySem.Calls
set_option maxHeartbeats 4000000
namespace Mine
variable {w : World} {p : Program} {loose : List Str} {mean : ExcName → Option Value} {mg mb : Str → Option Value} {news : List (Addr × Obj)}
--OPS
local macro_rules | `(tactic| walk_at "compareOp Eq ref ref") => `(tactic| (k_here; first | refine eq_four ?_ | refine eq_two ?_))
noncomputable def dueV (z : Int → Int) (a b c d : Int) : Int := (c - b) * (d - b) * (d - c) * z a - (c - a) * (d - a) * (d - c) * z b + (b - a) * (d - a) * (d - b) * z c - (b - a) * (c - a) * (c - b) * z d
noncomputable abbrev mx (x : Int) : Int := if -x > x then -x else x
noncomputable def partsV (a b c d : Int) : Int := (c - b) * (d - b) * (d - c) + (c - a) * (d - a) * (d - c) + (b - a) * (d - a) * (d - b) + (b - a) * (c - a) * (c - b)
noncomputable abbrev IntAt (x : Str) (n : Int) (m : Str → Option Value) : Prop := ∃ t, m x = some (.int n t)
theorem IntAt.set {x : Str} {n : Int} {m : Str → Option Value} (b : IntAt x n m) {y : Str} {v : Option Value} (n1 : x ≠ y) : IntAt x n (fun z => if z = y then v else m z) := by
  obtain ⟨t, e⟩ := b
  exact ⟨t, (if_neg n1).trans e⟩
theorem IntAt.here {x : Str} {n : Int} {m : Str → Option Value} {t : Tok} : IntAt x n (fun z => if z = x then some (.int n t) else m z) := ⟨t, if_pos rfl⟩
theorem small6 {d : Nat} (h : d < 6) : Builtin.Range.small 0 (d : Int) 1 = true := (by decide +kernel : ∀ d : Fin 6, Builtin.Range.small 0 ((d : Nat) : Int) 1 = true) ⟨d, h⟩
theorem size6 {d : Nat} (h : d < 6) : Builtin.Range.rangeSize 0 (d : Int) 1 = (d : Int) := (by decide +kernel : ∀ d : Fin 6, Builtin.Range.rangeSize 0 ((d : Nat) : Int) 1 = ((d : Nat) : Int)) ⟨d, h⟩
/-- a number that tells whether c holds -/
noncomputable def MetIs (c : Prop) (x : Int) : Prop := (c → x = 1) ∧ (¬ c → x = 0)
theorem MetIs.iff {c d : Prop} {x : Int} (h : MetIs c x) (e : c ↔ d) : MetIs d x := ⟨fun q => h.1 (e.mpr q), fun q => h.2 fun z => q (e.mp z)⟩
/-- ahead in the dictionaries' order -/
noncomputable def Ahead (l d : Int) (c : Prop) : Prop := l < d ∨ l = d ∧ c
theorem Ahead.congr {l d : Int} {c c' : Prop} (h : c ↔ c') : Ahead l d c ↔ Ahead l d c' := or_congr_right (and_congr_right fun _ => h)
theorem Ahead.ne {l d : Int} {c c' : Prop} (h : l ≠ d) : Ahead l d c ↔ Ahead l d c' := or_congr_right ⟨fun q => absurd q.1 h, fun q => absurd q.1 h⟩
theorem Ahead.start {l d k : Int} (hk : 0 ≤ k) : l < d ↔ Ahead l d (k < ((0 : Nat) : Int)) := ⟨.inl, fun e => e.elim id fun q => absurd q.2 (Int.not_lt.mpr hk)⟩
theorem Ahead.fin {l k : Int} {n : Nat} (h : k < l) : Ahead l n (k < (n : Int)) ↔ l < ((n + 1 : Nat) : Int) :=
  ⟨fun e => e.elim (fun q => Int.lt_trans q (Int.lt_succ _)) fun q => q.1 ▸ Int.lt_succ _, fun e => (Int.lt_or_eq_of_le (Int.le_of_lt_add_one e)).elim .inl fun q => .inr ⟨q, q ▸ h⟩⟩
theorem ahead_hit {i j k l b c d : Int} {e : Nat} (h : (e : Int) = i ∧ b = j ∧ c = k ∧ d = l) : ¬ Ahead l d (Ahead k c (Ahead j b (i < (e : Int)))) ∧ Ahead l d (Ahead k c (Ahead j b (i < ((e + 1 : Nat) : Int)))) := by
  obtain ⟨rfl, rfl, rfl, rfl⟩ := h
  have no : ∀ {x : Int} {c : Prop}, ¬ c → ¬ Ahead x x c := fun n e => e.elim (Int.lt_irrefl _) fun q => n q.2
  exact ⟨no (no (no (Int.lt_irrefl _))), .inr ⟨rfl, .inr ⟨rfl, .inr ⟨rfl, Int.lt_succ _⟩⟩⟩⟩
theorem ahead_miss {i j k l b c d : Int} {e : Nat} (h : ¬ ((e : Int) = i ∧ b = j ∧ c = k ∧ d = l)) : Ahead l d (Ahead k c (Ahead j b (i < (e : Int)))) ↔ Ahead l d (Ahead k c (Ahead j b (i < ((e + 1 : Nat) : Int)))) := by
  by_cases h1 : l = d
  · by_cases h2 : k = c
    · by_cases h3 : j = b
      · refine Ahead.congr (Ahead.congr (Ahead.congr ⟨fun q => Int.lt_trans q (Int.lt_succ _), fun q => ?_⟩))
        exact (Int.lt_or_eq_of_le (Int.le_of_lt_add_one q)).elim id fun q => absurd ⟨q.symm, h3.symm, h2.symm, h1.symm⟩ h
      · exact Ahead.congr (Ahead.congr (Ahead.ne h3))
    · exact Ahead.congr (Ahead.ne h2)
  · exact Ahead.ne h1
structure GrAt (an af : Addr) (h' w' : Int) (c : Prop) (m : Str → Option Value) : Prop where
  e1 : m "numbers" = some (.ref an)
  e2 : m "four" = some (.ref af)
  e3 : IntAt "height" h' m
  e4 : IntAt "whole" w' m
  e5 : ∃ x t, m "met" = some (.int x t) ∧ MetIs c x
theorem GrAt.iff {an af : Addr} {h' w' : Int} {c d : Prop} {m : Str → Option Value} (b : GrAt an af h' w' c m) (e : c ↔ d) : GrAt an af h' w' d m :=
  ⟨b.e1, b.e2, b.e3, b.e4, b.e5.elim fun x h => h.elim fun t h => ⟨x, t, h.1, h.2.iff e⟩⟩
theorem GrAt.set {an af : Addr} {h' w' : Int} {c : Prop} {m : Str → Option Value} (b : GrAt an af h' w' c m) {y : Str} {v : Option Value} (n1 : ("numbers" : Str) ≠ y) (n2 : ("four" : Str) ≠ y) (n3 : ("height" : Str) ≠ y) (n4 : ("whole" : Str) ≠ y) (n5 : ("met" : Str) ≠ y) : GrAt an af h' w' c (fun z => if z = y then v else m z) :=
  ⟨(if_neg n1).trans b.e1, (if_neg n2).trans b.e2, b.e3.set n3, b.e4.set n4, b.e5.elim fun x h => h.elim fun t h => ⟨x, t, (if_neg n5).trans h.1, h.2⟩⟩
noncomputable def ggScope : { x : Scope // x = dScope (st 28) } := ⟨⟨_, _, _, _, _⟩, rfl⟩
noncomputable abbrev ggEnv (L : Addr) : Env := envOf (Str.ofString "_law_greatest") ggScope.1 L 247 (.ref 246)
noncomputable def ggD : { x : Stmt // x = nth (dBody (st 28)) 1 } := ⟨.For (.Name _ _) _ [_] [] _, rfl⟩
noncomputable def ggC : { x : Stmt // x = nth (bodyOf (nth (dBody (st 28)) 1)) 0 } := ⟨.For (.Name _ _) _ [_] [] _, rfl⟩
noncomputable def ggB : { x : Stmt // x = nth (bodyOf (nth (bodyOf (nth (dBody (st 28)) 1)) 0)) 0 } := ⟨.For (.Name _ _) _ [_] [] _, rfl⟩
noncomputable def ggA : { x : Stmt // x = nth (bodyOf (nth (bodyOf (nth (bodyOf (nth (dBody (st 28)) 1)) 0)) 0)) 0 } := ⟨.For (.Name _ _) _ [_, _, _, _, _, _] [] _, rfl⟩
noncomputable def gb0 : { x : Stmt // x = nth (bodyOf ggA.1) 0 } := ⟨.Assign [.Tuple _ _ _] _ _, rfl⟩
noncomputable def gb1 : { x : Stmt // x = nth (bodyOf ggA.1) 1 } := ⟨.Assign [.Tuple _ _ _] _ _, rfl⟩
noncomputable def gb2 : { x : Stmt // x = nth (bodyOf ggA.1) 2 } := ⟨.Assign [.Name _ _] _ _, rfl⟩
noncomputable def gb3 : { x : Stmt // x = nth (bodyOf ggA.1) 3 } := ⟨.Assign [.Name _ _] _ _, rfl⟩
noncomputable def gb4 : { x : Stmt // x = nth (bodyOf ggA.1) 4 } := ⟨.If _ [_] [] _, rfl⟩
noncomputable def gb5 : { x : Stmt // x = nth (bodyOf ggA.1) 5 } := ⟨.If _ [_] [] _, rfl⟩
section
variable {dp un : Nat} {gd : Option (List Code)} {cn : Str} {cs : Scope} {a₀ : Addr} {ccd : Value} {cl : List (Str × Addr)} {outer : List Env} {A₀ : Around} {base g : Heap} {L : Nat} {L₀ : Addr} {s : Shared}
  {an af : Addr} {nn nf : Nat} {vs : List Value} {zs : List Int} {i j k l h' w' a b c d : Int} {ta tb tc td : Tok} {R : Led} {C : Prop} {h : Heap} {tkk : Nat} {m : Str → Option Value} {Q : Flow → Shared → Prop} {E : Value → Shared → Prop}
/-- due and parts of four places -/
theorem gr_due (B : Below A₀ base (envX cn cs L₀ a₀ ccd cl :: outer) g) (XX : (K w.params).In g) (T : Top p loose mean mg mb g) (hzv : IntsAre vs zs) (hz : zs.length = 6) (hzb : ∀ n, Bd 6 (zs.getD n 0)) (a0 : 0 ≤ a) (ab : a < b) (bc : b < c) (cd : c < d) (d6 : d < 6)
    (F : Fr g L h m) (N : News g L h ((an, listOf vs.toArray nn) :: (af, listOf #[.int i ta, .int j tb, .int k tc, .int l td] nf) :: R)) (hm : GrAt an af h' w' C m) (hd : IntAt "d" d m) (hc : IntAt "c" c m) (hb : IntAt "b" b m) (ha : IntAt "a" a m)
    (hE : PassesOwn (model Pw w) ((ktrTop dp un gd cn cs L₀ a₀ ccd cl outer).deeper (ggEnv L)) (ggEnv L) E)
    (hQ : ∀ h tk m', Fr g L h m' → News g L h ((an, listOf vs.toArray nn) :: (af, listOf #[.int i ta, .int j tb, .int k tc, .int l td] nf) :: R) → GrAt an af h' w' C m' → IntAt "d" d m' → IntAt "c" c m' → IntAt "b" b m' → IntAt "a" a m' →
      IntAt "due" (dueV (zf zs) a b c d) m' → IntAt "parts" (partsV a b c d) m' → Q .next { s with heap := h, toks := tk }) :
    wpAny (model Pw w) ((ktrTop dp un gd cn cs L₀ a₀ ccd cl outer).deeper (ggEnv L)) (execs [gb0.1, gb1.1, gb2.1, gb3.1] (ggEnv L)) Q E { s with heap := h, toks := tkk } := by
  obtain ⟨⟨b0, c0, d0⟩, a6, b6, c6⟩ := ord4 a0 ab bc cd d6
  have u0 := bd6 d0 d6
  have u1 := bd6 c0 c6
  have u2 := bd6 b0 b6
  have u3 := bd6 a0 a6
  obtain ⟨t0, f0⟩ := hd
  obtain ⟨t1, f1⟩ := hc
  obtain ⟨t2, f2⟩ := hb
  obtain ⟨t3, f3⟩ := ha
  obtain ⟨n1, n2, ⟨x3, n3⟩, ⟨x4, n4⟩, ⟨x5, x6, n5, n6⟩⟩ := hm
  dsimp only [ggEnv, ggScope, gb0, gb1, gb2, gb3]
  k_steps
  rename News _ _ _ _ => N9
  rename Fr _ _ _ _ => F9
  exact hQ _ _ _ F9 (fun q hq => N9 q (by repeat (first | exact hq | refine .tail _ ?_))) ⟨by with_unfolding_all exact n1, by with_unfolding_all exact n2, ⟨_, by with_unfolding_all exact n3⟩, ⟨_, by with_unfolding_all exact n4⟩, ⟨_, _, by with_unfolding_all exact n5, n6⟩⟩
    ⟨_, by with_unfolding_all exact f0⟩ ⟨_, by with_unfolding_all exact f1⟩ ⟨_, by with_unfolding_all exact f2⟩ ⟨_, by with_unfolding_all exact f3⟩ ⟨_, by with_unfolding_all rfl⟩ ⟨_, by with_unfolding_all rfl⟩
/-- the test of four places -/
theorem gr_test (B : Below A₀ base (envX cn cs L₀ a₀ ccd cl :: outer) g) (XX : (K w.params).In g) (T : Top p loose mean mg mb g) (hdd : dp + 5 < recursionLimit) (huu : un + 10 * 5 < cLine) (bh : Bd 20 h') (bw : Bd 12 w') {D P : Int} (bP : Bd 20 P) (g0 : mx D * w' ≤ mx h' * P) (gv : a = i ∧ b = j ∧ c = k ∧ d = l → D = h' ∧ P = w')
    (F : Fr g L h m) (N : News g L h ((an, listOf vs.toArray nn) :: (af, listOf #[.int i ta, .int j tb, .int k tc, .int l td] nf) :: R)) (hm : GrAt an af h' w' C m) (hd : IntAt "d" d m) (hc : IntAt "c" c m) (hb : IntAt "b" b m) (ha : IntAt "a" a m) (hD : IntAt "due" D m) (hP : IntAt "parts" P m)
    (hE : PassesOwn (model Pw w) ((ktrTop dp un gd cn cs L₀ a₀ ccd cl outer).deeper (ggEnv L)) (ggEnv L) E) {C' : Prop} (hC : a = i ∧ b = j ∧ c = k ∧ d = l → ¬ C ∧ C') (hC' : ¬ (a = i ∧ b = j ∧ c = k ∧ d = l) → (C ↔ C'))
    (hQ : ∀ h tk m', Fr g L h m' → News g L h ((an, listOf vs.toArray nn) :: (af, listOf #[.int i ta, .int j tb, .int k tc, .int l td] nf) :: R) → GrAt an af h' w' C' m' → IntAt "d" d m' → IntAt "c" c m' → IntAt "b" b m' →
      Q .next { s with heap := h, toks := tk }) :
    wpAny (model Pw w) ((ktrTop dp un gd cn cs L₀ a₀ ccd cl outer).deeper (ggEnv L)) (execs [gb4.1, gb5.1] (ggEnv L)) Q E { s with heap := h, toks := tkk } := by
  obtain ⟨t0, f0⟩ := hd
  obtain ⟨t1, f1⟩ := hc
  obtain ⟨t2, f2⟩ := hb
  obtain ⟨t3, f3⟩ := ha
  obtain ⟨tD, fD⟩ := hD
  obtain ⟨tP, fP⟩ := hP
  obtain ⟨n1, n2, ⟨x3, n3⟩, ⟨x4, n4⟩, ⟨x5, x6, n5, n6⟩⟩ := hm
  dsimp only [ggEnv, ggScope, gb4, gb5]
  refine execs_cut 1 ?_
  dsimp only [List.take, List.drop]
  k_steps
  · exact absurd g0 (Int.not_le.mpr (by assumption))
  · show Cut _
    unfold Cut
    dsimp only [List.drop]
    k_steps
    · rename Fr _ _ _ _ => F6
      rename News _ _ _ _ => N6
      have hc := hC (by assumption)
      exact hQ _ _ _ F6 (fun q hq => N6 q (by repeat (first | exact hq | refine .tail _ ?_))) ⟨by with_unfolding_all exact n1, by with_unfolding_all exact n2, ⟨_, by with_unfolding_all exact n3⟩, ⟨_, by with_unfolding_all exact n4⟩, ⟨_, _, by with_unfolding_all rfl, fun _ => by rw [n6.2 hc.1]; rfl, fun q => absurd hc.2 q⟩⟩
        ⟨_, by with_unfolding_all exact f0⟩ ⟨_, by with_unfolding_all exact f1⟩ ⟨_, by with_unfolding_all exact f2⟩
    · rename ¬ _ => hne
      exact absurd (gv (by assumption)) hne
    · rename Fr _ _ _ _ => F6
      rename News _ _ _ _ => N6
      rename ¬ _ => hne
      exact hQ _ _ _ F6 (fun q hq => N6 q (by repeat (first | exact hq | refine .tail _ ?_))) ⟨n1, n2, ⟨_, n3⟩, ⟨_, n4⟩, ⟨_, _, n5, n6.iff (hC' hne)⟩⟩ ⟨_, f0⟩ ⟨_, f1⟩ ⟨_, f2⟩
theorem zf_bd (hzb : ∀ n, Bd 6 (zs.getD n 0)) (x : Int) : Bd 6 (zf zs x) := hzb _
theorem parts_bd {a b c d : Int} (a0 : 0 ≤ a) (ab : a < b) (bc : b < c) (cd : c < d) (d6 : d < 6) : Bd 20 (partsV a b c d) := by
  obtain ⟨⟨b0, c0, d0⟩, a6, b6, c6⟩ := ord4 a0 ab bc cd d6
  have u0 := bd6 d0 d6
  have u1 := bd6 c0 c6
  have u2 := bd6 b0 b6
  have u3 := bd6 a0 a6
  exact Bd.up (by unfold partsV; ktr_rel) (by decide)
/-- what _law_greatest is given -/
structure GrAsk (zs : List Int) (i j k l h' w' : Int) : Prop where
  i0 : 0 ≤ i
  ij : i < j
  jk : j < k
  kl : k < l
  l6 : l < 6
  bh : Bd 20 h'
  bw : Bd 12 w'
  g1 : ∀ a b c d : Int, 0 ≤ a → a < b → b < c → c < d → d < 6 → mx (dueV (zf zs) a b c d) * w' ≤ mx h' * partsV a b c d
  g2 : dueV (zf zs) i j k l = h'
  g3 : partsV i j k l = w'
theorem gr_a {b c d : Nat} (bc : b < c) (cd : c < d) (d6 : d < 6) (B : Below A₀ base (envX cn cs L₀ a₀ ccd cl :: outer) g) (XX : (K w.params).In g) (T : Top p loose mean mg mb g) (hdd : dp + 5 < recursionLimit) (huu : un + 10 * 5 < cLine) (hzv : IntsAre vs zs) (hz : zs.length = 6) (hzb : ∀ n, Bd 6 (zs.getD n 0)) (G : GrAsk zs i j k l h' w')
    (F : Fr g L h m) (N : News g L h ((an, listOf vs.toArray nn) :: (af, listOf #[.int i ta, .int j tb, .int k tc, .int l td] nf) :: R)) (hm : GrAt an af h' w' (Ahead l d (Ahead k c (j < (b : Int)))) m) (hd : IntAt "d" d m) (hc : IntAt "c" c m) (hb : IntAt "b" b m)
    (hE : PassesOwn (model Pw w) ((ktrTop dp un gd cn cs L₀ a₀ ccd cl outer).deeper (ggEnv L)) (ggEnv L) E)
    (hQ : ∀ h tk m', Fr g L h m' → News g L h ((an, listOf vs.toArray nn) :: (af, listOf #[.int i ta, .int j tb, .int k tc, .int l td] nf) :: R) → GrAt an af h' w' (Ahead l d (Ahead k c (j < ((b + 1 : Nat) : Int)))) m' → IntAt "d" d m' → IntAt "c" c m' → Q .next { s with heap := h, toks := tk }) :
    wpAny (model Pw w) ((ktrTop dp un gd cn cs L₀ a₀ ccd cl outer).deeper (ggEnv L)) (exec ggA.1 (ggEnv L)) Q E { s with heap := h, toks := tkk } := by
  dsimp only [ggEnv, ggScope, ggA]
  refine for_led (s₀ := s) (h₀ := g) (fun n m led => led = ((an, listOf vs.toArray nn) :: (af, listOf #[.int i ta, .int j tb, .int k tc, .int l td] nf) :: R) ∧ GrAt an af h' w' (Ahead l d (Ahead k c (Ahead j b (i < (n : Int))))) m ∧ IntAt "d" d m ∧ IntAt "c" c m ∧ IntAt "b" b m) b (fun i v => ∃ t, v = .int (0 + i) t) ?_ ?_ ?_
  · obtain ⟨tq, eq⟩ := id hb
    k_steps
    exact ready_range (a₀ := 0) _ rfl (by assumption) (small6 (Nat.lt_trans bc (Nat.lt_trans cd d6))) (size6 (Nat.lt_trans bc (Nat.lt_trans cd d6))) (by k_asm) (by k_asm) ⟨rfl, hm.iff (Ahead.congr (Ahead.congr (Ahead.start G.i0))), hd, hc, hb⟩ ⟨rfl, rfl, rfl⟩
  · rintro e v m₁ led hh tk I o hlt ⟨t, rfl⟩ ⟨rfl, hm, hd, hc, hb⟩ F1 N1 hI
    rw [Int.zero_add] at F1
    refine execs_cut 4 (gr_due (a := e) B XX T hzv hz hzb (Int.natCast_nonneg _) (Int.ofNat_lt.mpr hlt) (Int.ofNat_lt.mpr bc) (Int.ofNat_lt.mpr cd) (Int.ofNat_lt.mpr d6) F1 (rot N1) (hm.set (by decide) (by decide) (by decide) (by decide) (by decide)) (hd.set (by decide)) (hc.set (by decide)) (hb.set (by decide)) .here hE fun h2 tk2 m2 F2 N2 hm2 hd2 hc2 hb2 ha2 hD2 hP2 => ?_)
    exact gr_test B XX T hdd huu G.bh G.bw (parts_bd (Int.natCast_nonneg _) (Int.ofNat_lt.mpr hlt) (Int.ofNat_lt.mpr bc) (Int.ofNat_lt.mpr cd) (Int.ofNat_lt.mpr d6)) (G.g1 e b c d (Int.natCast_nonneg _) (Int.ofNat_lt.mpr hlt) (Int.ofNat_lt.mpr bc) (Int.ofNat_lt.mpr cd) (Int.ofNat_lt.mpr d6)) (fun ⟨q1, q2, q3, q4⟩ => q1 ▸ q2 ▸ q3 ▸ q4 ▸ ⟨G.g2, G.g3⟩)
      F2 N2 hm2 hd2 hc2 hb2 ha2 hD2 hP2 hE ahead_hit ahead_miss fun h3 tk3 m3 F3 N3 hm3 hd3 hc3 hb3 => ⟨h3, tk3, m3, _, rfl, F3, unrot N3, hI, rfl, hm3, hd3, hc3, hb3⟩
  · rintro m₁ led hh tk ⟨rfl, hm, hd, hc, hb⟩ F1 N1
    exact hQ _ _ _ F1 N1 (hm.iff (Ahead.congr (Ahead.congr (Ahead.fin G.ij)))) hd hc
theorem gr_b {c d : Nat} (cd : c < d) (d6 : d < 6) (B : Below A₀ base (envX cn cs L₀ a₀ ccd cl :: outer) g) (XX : (K w.params).In g) (T : Top p loose mean mg mb g) (hdd : dp + 5 < recursionLimit) (huu : un + 10 * 5 < cLine) (hzv : IntsAre vs zs) (hz : zs.length = 6) (hzb : ∀ n, Bd 6 (zs.getD n 0)) (G : GrAsk zs i j k l h' w')
    (F : Fr g L h m) (N : News g L h ((an, listOf vs.toArray nn) :: (af, listOf #[.int i ta, .int j tb, .int k tc, .int l td] nf) :: R)) (hm : GrAt an af h' w' (Ahead l d (k < (c : Int))) m) (hd : IntAt "d" d m) (hc : IntAt "c" c m)
    (hE : PassesOwn (model Pw w) ((ktrTop dp un gd cn cs L₀ a₀ ccd cl outer).deeper (ggEnv L)) (ggEnv L) E)
    (hQ : ∀ h tk m', Fr g L h m' → News g L h ((an, listOf vs.toArray nn) :: (af, listOf #[.int i ta, .int j tb, .int k tc, .int l td] nf) :: R) → GrAt an af h' w' (Ahead l d (k < ((c + 1 : Nat) : Int))) m' → IntAt "d" d m' → Q .next { s with heap := h, toks := tk }) :
    wpAny (model Pw w) ((ktrTop dp un gd cn cs L₀ a₀ ccd cl outer).deeper (ggEnv L)) (exec ggB.1 (ggEnv L)) Q E { s with heap := h, toks := tkk } := by
  dsimp only [ggEnv, ggScope, ggB]
  refine for_led (s₀ := s) (h₀ := g) (fun n m led => led = ((an, listOf vs.toArray nn) :: (af, listOf #[.int i ta, .int j tb, .int k tc, .int l td] nf) :: R) ∧ GrAt an af h' w' (Ahead l d (Ahead k c (j < (n : Int)))) m ∧ IntAt "d" d m ∧ IntAt "c" c m) c (fun i v => ∃ t, v = .int (0 + i) t) ?_ ?_ ?_
  · obtain ⟨tq, eq⟩ := id hc
    k_steps
    exact ready_range (a₀ := 0) _ rfl (by assumption) (small6 (Nat.lt_trans cd d6)) (size6 (Nat.lt_trans cd d6)) (by k_asm) (by k_asm) ⟨rfl, hm.iff (Ahead.congr (Ahead.start (Int.le_trans G.i0 (Int.le_of_lt G.ij)))), hd, hc⟩ ⟨rfl, rfl, rfl⟩
  · rintro e v m₁ led hh tk I o hlt ⟨t, rfl⟩ ⟨rfl, hm, hd, hc⟩ F1 N1 hI
    rw [Int.zero_add] at F1
    exact wpAny_execs_cons (gr_a (b := e) hlt cd d6 B XX T hdd huu hzv hz hzb G F1 (rot N1) (hm.set (by decide) (by decide) (by decide) (by decide) (by decide)) (hd.set (by decide)) (hc.set (by decide)) .here hE fun h3 tk3 m3 F3 N3 hm3 hd3 hc3 => wpAny_execs_nil ⟨h3, tk3, m3, _, rfl, F3, unrot N3, hI, rfl, hm3, hd3, hc3⟩)
  · rintro m₁ led hh tk ⟨rfl, hm, hd, hc⟩ F1 N1
    exact hQ _ _ _ F1 N1 (hm.iff (Ahead.congr (Ahead.fin G.jk))) hd
theorem gr_c {d : Nat} (d6 : d < 6) (B : Below A₀ base (envX cn cs L₀ a₀ ccd cl :: outer) g) (XX : (K w.params).In g) (T : Top p loose mean mg mb g) (hdd : dp + 5 < recursionLimit) (huu : un + 10 * 5 < cLine) (hzv : IntsAre vs zs) (hz : zs.length = 6) (hzb : ∀ n, Bd 6 (zs.getD n 0)) (G : GrAsk zs i j k l h' w')
    (F : Fr g L h m) (N : News g L h ((an, listOf vs.toArray nn) :: (af, listOf #[.int i ta, .int j tb, .int k tc, .int l td] nf) :: R)) (hm : GrAt an af h' w' (l < (d : Int)) m) (hd : IntAt "d" d m)
    (hE : PassesOwn (model Pw w) ((ktrTop dp un gd cn cs L₀ a₀ ccd cl outer).deeper (ggEnv L)) (ggEnv L) E)
    (hQ : ∀ h tk m', Fr g L h m' → News g L h ((an, listOf vs.toArray nn) :: (af, listOf #[.int i ta, .int j tb, .int k tc, .int l td] nf) :: R) → GrAt an af h' w' (l < ((d + 1 : Nat) : Int)) m' → Q .next { s with heap := h, toks := tk }) :
    wpAny (model Pw w) ((ktrTop dp un gd cn cs L₀ a₀ ccd cl outer).deeper (ggEnv L)) (exec ggC.1 (ggEnv L)) Q E { s with heap := h, toks := tkk } := by
  dsimp only [ggEnv, ggScope, ggC]
  refine for_led (s₀ := s) (h₀ := g) (fun n m led => led = ((an, listOf vs.toArray nn) :: (af, listOf #[.int i ta, .int j tb, .int k tc, .int l td] nf) :: R) ∧ GrAt an af h' w' (Ahead l d (k < (n : Int))) m ∧ IntAt "d" d m) d (fun i v => ∃ t, v = .int (0 + i) t) ?_ ?_ ?_
  · obtain ⟨tq, eq⟩ := id hd
    k_steps
    exact ready_range (a₀ := 0) _ rfl (by assumption) (small6 d6) (size6 d6) (by k_asm) (by k_asm) ⟨rfl, hm.iff (Ahead.start (Int.le_trans G.i0 (Int.le_of_lt (Int.lt_trans G.ij G.jk)))), hd⟩ ⟨rfl, rfl, rfl⟩
  · rintro e v m₁ led hh tk I o hlt ⟨t, rfl⟩ ⟨rfl, hm, hd⟩ F1 N1 hI
    rw [Int.zero_add] at F1
    exact wpAny_execs_cons (gr_b (c := e) hlt d6 B XX T hdd huu hzv hz hzb G F1 (rot N1) (hm.set (by decide) (by decide) (by decide) (by decide) (by decide)) (hd.set (by decide)) .here hE fun h3 tk3 m3 F3 N3 hm3 hd3 => wpAny_execs_nil ⟨h3, tk3, m3, _, rfl, F3, unrot N3, hI, rfl, hm3, hd3⟩)
  · rintro m₁ led hh tk ⟨rfl, hm, hd⟩ F1 N1
    exact hQ _ _ _ F1 N1 (hm.iff (Ahead.fin G.kl))
end
theorem c_greatest (an af : Addr) (nn nf : Nat) (vs : List Value) (zs : List Int) (hzv : IntsAre vs zs) (hz : zs.length = 6) (hzb : ∀ n, Bd 6 (zs.getD n 0)) (i j k l h' w' : Int) (ta tb tc td' th tw tq : Tok) (h0 : 0 ≤ i) (h1 : i < j) (h2 : j < k) (h3 : k < l) (h4 : l < 6) (bh : Bd 20 h') (bw : Bd 12 w')
    (g1 : ∀ a b c d : Int, 0 ≤ a → a < b → b < c → c < d → d < 6 → mx (dueV (zf zs) a b c d) * w' ≤ mx h' * partsV a b c d) (g2 : dueV (zf zs) i j k l = h') (g3 : partsV i j k l = w') :
    Claim w p loose mean mg mb 5 247 [.ref an, .ref af, .int h' th, .int w' tw] ((an, listOf vs.toArray nn) :: (af, listOf #[.int i ta, .int j tb, .int k tc, .int l td'] nf) :: news)
      (IsB true ((an, listOf vs.toArray nn) :: (af, listOf #[.int i ta, .int j tb, .int k tc, .int l td'] nf) :: news)) := by
  intro dp un gd cn cs a ccd cl outer A₀ base h₀ L m s R B F XX N T hk hd hu hret
  have G : GrAsk zs i j k l h' w' := ⟨h0, h1, h2, h3, h4, bh, bw, g1, g2, g3⟩
  k_dflt cell_enter
  refine execs_cut 1 ?_
  show wpAny _ _ (execs [_] _) _ _ _
  k_steps
  show Cut _
  unfold Cut
  rename Fr _ _ _ _ => F9
  rename News _ _ _ _ => N9
  rename Below _ _ _ _ => B9
  rename Frag.In _ _ => X9
  rename Top _ _ _ _ _ _ => T9
  rename_i g9 L9 hA tk9 FG9 low9 big9 hB tz1
  refine use_fr (P := GrAt an af h' w' (l < ((0 : Nat) : Int))) F9 ⟨by with_unfolding_all rfl, by with_unfolding_all rfl, ⟨_, by with_unfolding_all rfl⟩, ⟨_, by with_unfolding_all rfl⟩, ⟨_, _, by with_unfolding_all rfl, fun q => absurd q (Int.not_lt.mpr (Int.le_trans h0 (Int.le_of_lt (Int.lt_trans h1 (Int.lt_trans h2 h3))))), fun _ => rfl⟩⟩ ?_
  intro m9 F8 hm
  clear F9
  refine wpAny_execs_cons ?_
  refine for_led (s₀ := s) (h₀ := g9) (fun n m led => led = ((an, listOf vs.toArray nn) :: (af, listOf #[.int i ta, .int j tb, .int k tc, .int l td'] nf) :: news) ∧ GrAt an af h' w' (l < (n : Int)) m) 6 (fun i v => ∃ t, v = .int (0 + i) t) ?_ ?_ ?_
  · k_steps
    exact ready_range (a₀ := 0) _ rfl (by assumption) (by decide) (by decide) (by k_asm) (by k_asm) ⟨rfl, hm⟩ ⟨rfl, rfl, rfl⟩
  · rintro e v m₁ led hh tk I o hlt ⟨t, rfl⟩ ⟨rfl, hm⟩ F1 N1 hI
    rw [Int.zero_add] at F1
    exact wpAny_execs_cons (gr_c (d := e) hlt B9 X9 T9 hd hu hzv hz hzb G F1 (rot N1) (hm.set (by decide) (by decide) (by decide) (by decide) (by decide)) .here (by passes_own) fun h3 tk3 m3 F3 N3 hm3 => wpAny_execs_nil ⟨h3, tk3, m3, _, rfl, F3, unrot N3, hI, rfl, hm3⟩)
  · rintro m₁ led hh tk ⟨rfl, ⟨n1, n2, n3, n4, ⟨x, t, n5, n6⟩⟩⟩ F1 N1
    have hx := n6.1 h4
    subst hx
    dsimp only
    k_steps
    exact hret _ _ _ _ ⟨rfl, rfl⟩ (by k_asm) (by k_asm)

end Mine
end
theorem Mine.look31 : True := by first | (walk1; fail) | trivial
section
open PySem PySem.W PyProof.Rows PySem.Calls PySem.Spec
namespace Mine
/-- the place that misses most, and by how much: what the loop over the places holds after n of them -/
noncomputable def pk (z : Int → Int) (i j k l : Int) : Nat → Int × Int
  | 0 => (askedS i j k * askedH z i j k l, -1)
  | n + 1 => if (n : Int) = i ∨ (n : Int) = j ∨ (n : Int) = k ∨ (n : Int) = l then pk z i j k l n
    else if (pk z i j k l n).1.natAbs < (missedV z i j k (askedH z i j k l) (askedW i j k l) n).natAbs then (missedV z i j k (askedH z i j k l) (askedW i j k l) n, n) else pk z i j k l n
theorem pk_in {z : Int → Int} {i j k l : Int} {n : Nat} (h : (n : Int) = i ∨ (n : Int) = j ∨ (n : Int) = k ∨ (n : Int) = l) : pk z i j k l (n + 1) = pk z i j k l n := by
  rw [pk, if_pos h]
theorem pk_gt {z : Int → Int} {i j k l : Int} {n : Nat} (h : ¬ ((n : Int) = i ∨ (n : Int) = j ∨ (n : Int) = k ∨ (n : Int) = l)) (g : (pk z i j k l n).1.natAbs < (missedV z i j k (askedH z i j k l) (askedW i j k l) n).natAbs) :
    pk z i j k l (n + 1) = (missedV z i j k (askedH z i j k l) (askedW i j k l) n, (n : Int)) := by
  rw [pk, if_neg h, if_pos g]
theorem pk_le {z : Int → Int} {i j k l : Int} {n : Nat} (h : ¬ ((n : Int) = i ∨ (n : Int) = j ∨ (n : Int) = k ∨ (n : Int) = l)) (g : ¬ (pk z i j k l n).1.natAbs < (missedV z i j k (askedH z i j k l) (askedW i j k l) n).natAbs) :
    pk z i j k l (n + 1) = pk z i j k l n := by
  rw [pk, if_neg h, if_neg g]
theorem missed_bd {zs : List Int} (hzb : ∀ n, Bd 6 (zs.getD n 0)) {i j k l h w p : Int} (h0 : 0 ≤ i) (h1 : i < j) (h2 : j < k) (h3 : k < l) (h4 : l < 6) (bh : Bd 20 h) (bw : Bd 12 w) (p0 : 0 ≤ p) (p1 : p < 6) : Bd 50 (missedV (zf zs) i j k h w p) := by
  obtain ⟨⟨j0, k0, l0⟩, i6, j6, k6⟩ := ord4 h0 h1 h2 h3 h4
  have a1 : Bd 3 (j - i) := bd6d j0 j6 h0 i6
  have a2 : Bd 3 (k - i) := bd6d k0 k6 h0 i6
  have a3 : Bd 3 (k - j) := bd6d k0 k6 j0 j6
  have a4 : Bd 3 (p - i) := bd6d p0 p1 h0 i6
  have a5 : Bd 3 (p - j) := bd6d p0 p1 j0 j6
  have a6 : Bd 3 (p - k) := bd6d p0 p1 k0 k6
  have z1 : Bd 6 (zf zs i) := hzb _
  have z2 : Bd 6 (zf zs j) := hzb _
  have z3 : Bd 6 (zf zs k) := hzb _
  have z4 : Bd 6 (zf zs p) := hzb _
  unfold missedV
  exact Bd.up (Bd.sub (((((a1.mul a2).mul a3).mul bw).mul z4)) (Bd.add (Bd.sub (((((bw.mul z1).sub bh).mul a5).mul a6).mul a3) (((((bw.mul z2).add bh).mul a4).mul a6).mul a2)) (((((bw.mul z3).sub bh).mul a4).mul a5).mul a1))) (by decide)
theorem askedW_bd {i j k l : Int} (h0 : 0 ≤ i) (h1 : i < j) (h2 : j < k) (h3 : k < l) (h4 : l < 6) : Bd 12 (askedW i j k l) := by
  obtain ⟨⟨j0, k0, l0⟩, i6, j6, k6⟩ := ord4 h0 h1 h2 h3 h4
  have a1 : Bd 3 (j - i) := bd6d j0 j6 h0 i6
  have a2 : Bd 3 (k - i) := bd6d k0 k6 h0 i6
  have a3 : Bd 3 (k - j) := bd6d k0 k6 j0 j6
  have a4 : Bd 3 (l - i) := bd6d l0 h4 h0 i6
  have a5 : Bd 3 (l - j) := bd6d l0 h4 j0 j6
  have a6 : Bd 3 (l - k) := bd6d l0 h4 k0 k6
  unfold askedW
  rw [Int.zero_add]
  exact Bd.up ((((( a3.mul a5).mul a6).add ((a2.mul a4).mul a6)).add ((a1.mul a4).mul a5)).add ((a1.mul a2).mul a3)) (by decide)
theorem askedS_bd {i j k l : Int} (h0 : 0 ≤ i) (h1 : i < j) (h2 : j < k) (h3 : k < l) (h4 : l < 6) : Bd 10 (askedS i j k) := by
  obtain ⟨⟨j0, k0, l0⟩, i6, j6, k6⟩ := ord4 h0 h1 h2 h3 h4
  have a1 : Bd 3 (j - i) := bd6d j0 j6 h0 i6
  have a2 : Bd 3 (k - i) := bd6d k0 k6 h0 i6
  have a3 : Bd 3 (k - j) := bd6d k0 k6 j0 j6
  unfold askedS
  exact Bd.up ((a1.mul a2).mul a3) (by decide)
theorem askedH_bd {zs : List Int} (hzb : ∀ n, Bd 6 (zs.getD n 0)) {i j k l : Int} (h0 : 0 ≤ i) (h1 : i < j) (h2 : j < k) (h3 : k < l) (h4 : l < 6) : Bd 20 (askedH (zf zs) i j k l) := by
  obtain ⟨⟨j0, k0, l0⟩, i6, j6, k6⟩ := ord4 h0 h1 h2 h3 h4
  have a1 : Bd 3 (j - i) := bd6d j0 j6 h0 i6
  have a2 : Bd 3 (k - i) := bd6d k0 k6 h0 i6
  have a3 : Bd 3 (k - j) := bd6d k0 k6 j0 j6
  have a4 : Bd 3 (l - i) := bd6d l0 h4 h0 i6
  have a5 : Bd 3 (l - j) := bd6d l0 h4 j0 j6
  have a6 : Bd 3 (l - k) := bd6d l0 h4 k0 k6
  have z1 : Bd 6 (zf zs i) := hzb _
  have z2 : Bd 6 (zf zs j) := hzb _
  have z3 : Bd 6 (zf zs k) := hzb _
  have z4 : Bd 6 (zf zs l) := hzb _
  unfold askedH
  rw [Int.sub_zero]
  exact Bd.up (Bd.neg ((((a1.mul a2).mul a3).mul z4).sub ((((a1.mul a4).mul a5).mul z3).sub ((((a2.mul a4).mul a6).mul z2).sub (((a3.mul a5).mul a6).mul z1))))) (by decide)
theorem pk_bd {zs : List Int} (hzb : ∀ n, Bd 6 (zs.getD n 0)) {i j k l : Int} (h0 : 0 ≤ i) (h1 : i < j) (h2 : j < k) (h3 : k < l) (h4 : l < 6) : ∀ n, n ≤ 6 → Bd 50 (pk (zf zs) i j k l n).1
  | 0, _ => Bd.up ((askedS_bd h0 h1 h2 h3 h4).mul (askedH_bd hzb h0 h1 h2 h3 h4)) (by decide)
  | n + 1, hn => by
    have ih := pk_bd hzb h0 h1 h2 h3 h4 n (Nat.le_of_succ_le hn)
    unfold pk
    split
    · exact ih
    · split
      · exact missed_bd hzb h0 h1 h2 h3 h4 (askedH_bd hzb h0 h1 h2 h3 h4) (askedW_bd h0 h1 h2 h3 h4) (Int.natCast_nonneg _) (Int.ofNat_lt.mpr hn)
      · exact ih
end Mine

end
section
open PySem PySem.W PyProof.Rows PySem.Calls PySem.Spec
namespace Mine
section
open LCg LCt
variable {prog : Program} {w : World} {A : Around} {E : Value → Shared → Prop} {s : Shared} {h₀ : Heap} {L : Addr} {m : Str → Option Value} {env : Env}
/-- CompSrcT, that the walk is to leave -/
noncomputable def CompSrcTH (prog : Program) (w : World) (A : Around) (h₀ : Heap) (L : Addr) (m : Str → Option Value) (env : Env) (ct elt : PySem.Expr) (x : Str) (scope : Scope) (cl : List (Str × Addr)) (Fin : Shared → List Value → Led → Prop) (xv : Value) (s₁ : Shared) : Prop := CompSrcT prog w A h₀ L m env ct elt x scope cl Fin xv s₁
theorem CompSrcTH.mk {ct elt : PySem.Expr} {x : Str} {scope : Scope} {cl : List (Str × Addr)} {Fin : Shared → List Value → Led → Prop} {xv : Value} {s₁ : Shared} (h : CompSrcT prog w A h₀ L m env ct elt x scope cl Fin xv s₁) : CompSrcTH prog w A h₀ L m env ct elt x scope cl Fin xv s₁ := h
theorem ListComp_TH {ct elt iter : PySem.Expr} {x : Str} {px : Pos} {scope : Scope} {cl : List (Str × Addr)} {pos : Pos} {Q : Value → Shared → Prop} (F₀ : Fr h₀ L s.heap m := by k_asm)
    (hclos : closureFor scope env = pure cl := by with_unfolding_all rfl) (hcell : ∀ y ∈ scope.names, y.2 ≠ .cell := by decide) (hkind : scope.kind = .function := by rfl)
    (hnames : ∀ y ∈ scope.names, y.2 = .local → scope.names.lookup y.1 = some .local := by decide) (hx : scope.names.lookup x = some .local := by rfl)
    (h : wpAny (model prog w) A (eval iter env) (CompSrcTH prog w A h₀ L m env ct elt x scope cl (fun s₂ => FinE h₀ L m s₂ Q)) E s)
    (hs : ∀ x, foldedSetIterable iter env x = pure x := by intro _; rfl) :
    wpAny (model prog w) A (eval (.ListComp elt [⟨.Name x px, iter, [ct], 0⟩] scope pos) env) Q E s := ListComp_T F₀ hclos hcell hkind hnames hx h hs
theorem Assign_ListComp_TH {ct elt iter : PySem.Expr} {x y : Str} {px py : Pos} {scope : Scope} {cl : List (Str × Addr)} {pos spos : Pos} {Q : Flow → Shared → Prop} (F₀ : Fr h₀ L s.heap m := by k_asm) (hLe : env.locals = L := by rfl)
    (hsw : swapsWith (.ListComp elt [⟨.Name x px, iter, [ct], 0⟩] scope pos) (some (.Name y py)) spos.line env = pure true := by with_unfolding_all rfl)
    (hclos : closureFor scope env = pure cl := by with_unfolding_all rfl) (hcell : ∀ z ∈ scope.names, z.2 ≠ .cell := by decide) (hkind : scope.kind = .function := by rfl)
    (hnames : ∀ z ∈ scope.names, z.2 = .local → scope.names.lookup z.1 = some .local := by decide) (hx : scope.names.lookup x = some .local := by rfl)
    (hy : env.kindOf y = some .local := by rfl) (hp : (env.scope.kind == .class || (env.scope.kind == .module && env.locals != env.globals)) = false := by rfl)
    (h : wpAny (model prog w) A (eval iter env) (CompSrcTH prog w A h₀ L m env ct elt x scope cl (fun s₂ => FinA h₀ L m s₂ y Q)) E s)
    (hs : ∀ x, foldedSetIterable iter env x = pure x := by intro _; rfl) :
    wpAny (model prog w) A (exec (.Assign [.Name y py] (.ListComp elt [⟨.Name x px, iter, [ct], 0⟩] scope pos) spos) env) Q E s := Assign_ListComp_T F₀ hLe hsw hclos hcell hkind hnames hx hy hp h hs
end
/-- how many of the four lie below a place; the one next below -/
noncomputable def aheadN (i j k l p : Int) : Nat := ([i, j, k, l].filter (fun x => decide (x < p))).length
noncomputable def nearN (a : Nat) : Nat := if a = 0 then 0 else a - 1
theorem aheadN_le (i j k l p : Int) : aheadN i j k l p ≤ 4 := List.length_filter_le _ _
theorem ahead_step {f : List Int} {p x : Int} {n : Nat} (h : f[n]? = some x) : ((f.take (n + 1)).filter (fun x => decide (x < p))).length = ((f.take n).filter (fun x => decide (x < p))).length + if x < p then 1 else 0 := by
  rw [List.take_add_one, h, Option.toList_some, List.filter_append, List.length_append]
  congr 1
  by_cases g : x < p
  · simp [g]
  · simp [g]
end Mine

end
section
open PySem PySem.W PyProof.Rows PySem.Calls PySem.Spec
namespace Mine
/-- whether the one that comes misses to the same side as its neighbour -/
noncomputable def sameSide (H mo : Int) (n : Nat) : Bool := decide (mo > 0) == decide ((if n % 2 = 0 then H else -H) > 0)
/-- the four behind an exchange -/
noncomputable def nextF {α : Type} (f : List α) (v : α) (H mo : Int) (a : Nat) : List α :=
  if sameSide H mo (nearN a) then f.set (nearN a) v else if a = 0 then (v :: f).eraseIdx 4 else if a = 4 then (f ++ [v]).eraseIdx 0 else f.set a v
theorem nextF_ints {vs : List Value} {f : List Int} (h : IntsAre vs f) (x : Int) (t : Tok) (H mo : Int) (a : Nat) : IntsAre (nextF vs (.int x t) H mo a) (nextF f x H mo a) := by
  have er : ∀ {vs : List Value} {f : List Int} (k : Nat), IntsAre vs f → IntsAre (vs.eraseIdx k) (f.eraseIdx k) := by
    intro vs f k h
    induction h generalizing k with
    | nil => exact .nil
    | cons n t h ih =>
      cases k with
      | zero => exact h
      | succ k => exact .cons n t (ih k)
  unfold nextF
  split
  · exact ints_set _ h
  · split
    · exact er 4 (.cons x t h)
    · split
      · exact er 0 (IntsAre.append h (.cons x t .nil))
      · exact ints_set _ h
end Mine

end
section
open PySem PySem.W PyProof.Rows PySem.Calls
set_option maxHeartbeats 4000000
namespace Mine
variable {w : World} {p : Program} {loose : List Str} {mean : ExcName → Option Value} {mg mb : Str → Option Value} {news : List (Addr × Obj)}
--OPS
local macro_rules | `(tactic| walk_at "call ref") => `(tactic| (k_here; k_dflt ((first | ((with_reducible refine atR 32 ?_); refine Claim.goB c_b1 ?_) | ((with_reducible refine atR 85 ?_); refine Claim.goB c_c11 ?_) | ((with_reducible refine atR 92 ?_); refine Claim.goB c_c4 ?_) | ((with_reducible refine atR 78 ?_); refine Claim.goS c_b3 ?_)); k_whole; intros; (try dsimp only))))
noncomputable def toldStep (s : Int × Int × Bool) (c : Nat) : Int × Int × Bool :=
  if inB1 c then s else if c = 32 then (s.1, s.2.1, true) else if inC4 c then (s.1, -s.2.1, s.2.2) else (16 * s.1 + ((b3Out c).cps[0]?.getD 0 : Nat) - 97, s.2.1, s.2.2)
noncomputable def ToldOk (c : Nat) : Prop := c < 1114112 ∧ (inB1 c = true ∨ c = 32 ∨ inC4 c = true ∨ ∃ d, b3Out c = ⟨#[d]⟩)
noncomputable def ToldAt (st : Int × Int × Bool) (m : Str → Option Value) : Prop := (∃ t, m "number" = some (.int st.1 t)) ∧ (∃ t, m "way" = some (.int st.2.1 t)) ∧ m "out" = some (.bool st.2.2)
theorem c_told (x : Str) (tx : Tok) (hx : ∀ c ∈ x.cps.toList, ToldOk c) (hb : Bd 2 (x.cps.toList.foldl toldStep (0, 1, false)).2.1) :
    Claim w p loose mean mg mb 3 214 [.str x tx] news (fun v n' => ∃ a t, (∀ q ∈ news, q.1 < a) ∧ v = .ref a ∧ n' = (a, { cls := .type "tuple", data := .seq #[.int ((x.cps.toList.foldl toldStep (0, 1, false)).2.1 * (x.cps.toList.foldl toldStep (0, 1, false)).1) t, .bool (x.cps.toList.foldl toldStep (0, 1, false)).2.2] }) :: news) := by
  intro dp un gd cn cs a ccd cl outer A₀ base h₀ L m s R B F XX N T hk hd hu hret
  k_dflt cell_enter
  refine execs_cut 1 ?_
  show wpAny _ _ (execs [_] _) _ _ _
  k_steps
  show Cut _
  unfold Cut
  rename Fr _ _ _ _ => F9
  rename News _ _ _ _ => N9
  rename_i g9 L9 hA tk9 FG9 B9 X9 T9 low9 big9 D9 hB l9 hC hD' tz1 hE tz2 hF tz3
  obtain ⟨m9, F8, htok, hm⟩ : ∃ m9, Fr g9 L9 hF m9 ∧ m9 "token" = some (.str x tx) ∧ ToldAt (0, 1, false) m9 := ⟨_, F9, by with_unfolding_all rfl, ⟨_, by with_unfolding_all rfl⟩, ⟨_, by with_unfolding_all rfl⟩, by with_unfolding_all rfl⟩
  refine wpAny_execs_cons ?_
  refine for_led (s₀ := s) (h₀ := g9) (fun n m led => led = news ∧ ToldAt ((x.cps.toList.take n).foldl toldStep (0, 1, false)) m) x.cps.size (SignAt x) ?_ ?_ ?_
  · k_steps
    refine' ready_str _ ?k1 ?k2 ?k3 ?k4 ?k5
    case k1 => exact rfl
    case k2 => exact F8
    case k3 => exact fun q hq => N9 q (.tail _ hq)
    case k4 => exact ⟨rfl, hm⟩
    case k5 => exact ⟨rfl, rfl, rfl⟩
  · clear hm F8 F9 N9
    rintro i v m₁ led hh tkk I₁ o₁ hi ⟨c, u, hc, rfl⟩ ⟨rfl, ⟨t1, e1⟩, ⟨t2, e2⟩, e3⟩ F1 N1 hI1
    have hmem : c ∈ x.cps.toList := by
      rw [Array.mem_toList_iff]
      exact Array.mem_of_getElem? hc
    obtain ⟨hlt, hok⟩ := hx c hmem
    have hst : (x.cps.toList.take (i + 1)).foldl toldStep (0, 1, false) = toldStep ((x.cps.toList.take i).foldl toldStep (0, 1, false)) c := by
      rw [List.take_add_one, Array.getElem?_toList, hc, List.foldl_append]
      rfl
    generalize (x.cps.toList.take i).foldl toldStep (0, 1, false) = st at *
    obtain ⟨n0, w0, b0⟩ := st
    dsimp only at e1 e2 e3
    k_steps
    · have q1 := (by assumption : inB1 (c : Int) = true)
      exact ⟨_, _, _, _, rfl, by k_asm, by k_asm, hI1, rfl, by rw [hst]; unfold toldStep; rw [if_pos q1]; exact ⟨⟨_, by with_unfolding_all exact e1⟩, ⟨_, by with_unfolding_all exact e2⟩, by with_unfolding_all exact e3⟩⟩
    · have q1 := (by assumption : inB1 (c : Int) = false)
      have q2 := (by assumption : (c == 32) = true)
      rw [beq_iff_eq] at q2
      exact ⟨_, _, _, _, rfl, by k_asm, by k_asm, hI1, rfl, by rw [hst]; unfold toldStep; rw [if_neg (by rw [q1]; decide), if_pos q2]; exact ⟨⟨_, by with_unfolding_all exact e1⟩, ⟨_, by with_unfolding_all exact e2⟩, by with_unfolding_all rfl⟩⟩
    · have q1 := (by assumption : inB1 (c : Int) = false)
      have q2 := (by assumption : (c == 32) = false)
      have q3 := (by assumption : inC4 c = true)
      rw [beq_eq_false_iff_ne] at q2
      exact ⟨_, _, _, _, rfl, by k_asm, by k_asm, hI1, rfl, by rw [hst]; unfold toldStep; rw [if_neg (by rw [q1]; decide), if_neg q2, if_pos q3]; exact ⟨⟨_, by with_unfolding_all exact e1⟩, ⟨_, by with_unfolding_all rfl⟩, by with_unfolding_all exact e3⟩⟩
    · have q1 := (by assumption : inB1 (c : Int) = false)
      have q2 := (by assumption : (c == 32) = false)
      have q3 := (by assumption : inC4 c = false)
      rw [beq_eq_false_iff_ne] at q2
      obtain ⟨d, hd3⟩ : ∃ d, b3Out c = ⟨#[d]⟩ := by
        rcases hok with h | h | h | h
        · rw [q1] at h; cases h
        · exact absurd h q2
        · rw [q3] at h; cases h
        · exact h
      rw [hd3]
      k_steps
      exact ⟨_, _, _, _, rfl, by k_asm, by k_asm, hI1, rfl, by rw [hst]; unfold toldStep; rw [if_neg (by rw [q1]; decide), if_neg q2, if_neg (by rw [q3]; decide), hd3]; exact ⟨⟨_, by with_unfolding_all rfl⟩, ⟨_, by with_unfolding_all exact e2⟩, by with_unfolding_all exact e3⟩⟩
  · rintro m₁ led hh tkk ⟨rfl, hm1⟩ F1 N1
    rw [show x.cps.toList.take x.cps.size = x.cps.toList from List.take_of_length_le (by simp)] at hm1
    generalize hst : x.cps.toList.foldl toldStep (0, 1, false) = st at *
    obtain ⟨n0, w0, b0⟩ := st
    obtain ⟨⟨t1, e1⟩, ⟨t2, e2⟩, e3⟩ := hm1
    dsimp only at e1 e2 e3 hb
    dsimp only
    k_steps
    rename News _ _ _ _ => N7
    exact hret _ _ _ _ ⟨_, _, by assumption, rfl, rfl⟩ (by k_asm) N7

end Mine
end
theorem Mine.look32 : True := by first | (walk1; fail) | trivial
section
open PySem PySem.W PyProof.Rows PySem.Calls
set_option maxHeartbeats 4000000
namespace Mine
variable {w : World} {p : Program} {loose : List Str} {mean : ExcName → Option Value} {mg mb : Str → Option Value} {news : List (Addr × Obj)}
theorem set_at_first {prog : Program} {A : Around} {E : Value → Shared → Prop} {s : Shared} {h₀ : Heap} {L : Addr} {m : Str → Option Value} {af : Addr} {vs : List Value} {n b : Nat} {v : Value} {tb : Tok} {Q : Unit → Shared → Prop} (F : Fr h₀ L s.heap m) (N : News h₀ L s.heap ((af, listOf vs.toArray n) :: news))
    (off : ∀ q ∈ news, q.1 ≠ af) (hb : b < vs.length) (hs : vs.length ≤ 16) (h : ∀ h', Fr h₀ L h' m → News h₀ L h' ((af, listOf (vs.set b v).toArray n) :: news) → Q () { s with heap := h' }) :
    wpAny (model prog w) A (setItem (.ref af) (.int (b : Nat) tb) v) Q E s := by
  have z := N (af, listOf vs.toArray n) (.head _)
  refine ki_setAt z.1 (by omega) (by omega) (by rw [List.size_toArray]; omega) (h _ (F.change (Heap.SameBut.update ..) z.2.1 z.2.2) (ki_turn (pre := []) _ N (fun _ hp => nomatch hp) off ?_ ?_))
  · show vs.toArray.setIfInBounds b v = (vs.set b v).toArray
    rw [List.setIfInBounds_toArray]
  · rw [if_pos (by simp)]
theorem c_set (af : Addr) (vs : List Value) (n b : Nat) (v : Value) (tb : Tok) (hb : b < vs.length) (hs : vs.length ≤ 16) (off : ∀ q ∈ news, q.1 ≠ af) :
    Claim w p loose mean mg mb 2 169 [.ref af, .int (b : Nat) tb, v] ((af, listOf vs.toArray n) :: news) (fun r n' => r = .none ∧ ∃ n2, n' = (af, listOf (vs.set b v).toArray n2) :: news) := by
  intro dp un gd cn cs a ccd cl outer A₀ base h₀ L m s R B F XX N T hk hd hu hret
  k_dflt cell_enter
  show wpAny _ _ (execs (_ :: _) _) _ _ _
  k_steps
  refine set_at_first (by assumption) (by assumption) off hb hs fun h' F' N' => ?_
  clear N F
  dsimp only
  k_steps
  exact hret _ _ _ _ ⟨rfl, _, rfl⟩ (by k_asm) (by k_asm)
theorem c_del (af : Addr) (vs : List Value) (n b : Nat) (tb : Tok) (hb : b < vs.length) (hs : vs.length ≤ 16) (off : ∀ q ∈ news, q.1 ≠ af) :
    Claim w p loose mean mg mb 2 162 [.ref af, .int (b : Nat) tb] ((af, listOf vs.toArray n) :: news) (fun r n' => r = .none ∧ ∃ n2, n' = (af, listOf (vs.eraseIdx b).toArray n2) :: news) := by
  intro dp un gd cn cs a ccd cl outer A₀ base h₀ L m s R B F XX N T hk hd hu hret
  k_dflt cell_enter
  show wpAny _ _ (execs (_ :: _) _) _ _ _
  k_steps
  refine delItem_head (by assumption) (by assumption) off (k := b) (fitsIndex_of (by omega) (by omega)) ?_ ?_ (by rw [List.size_toArray, sizeLine_eq]; omega)
  · unfold seqIndex?
    simp only [show ¬ ((b : Nat) : Int) < 0 by omega, if_false]
    rw [if_pos (by simp; omega)]
    rfl
  intro h' F' N'
  clear N F
  dsimp only at N' ⊢
  k_steps
  exact hret _ _ _ _ ⟨rfl, _, rfl⟩ (by k_asm) (by k_asm)

end Mine
end
theorem Mine.look33 : True := by first | (walk1; fail) | trivial
section
open PySem PySem.W PyProof.Rows PySem.Calls
set_option maxHeartbeats 4000000
namespace Mine
variable {w : World} {p : Program} {loose : List Str} {mean : ExcName → Option Value} {mg mb : Str → Option Value} {news : List (Addr × Obj)}
--OPS
section
variable {dp un : Nat} {gd : Option (List Code)} {cn : Str} {cs : Scope} {a : Addr} {ccd : Value} {cl : List (Str × Addr)} {outer : List Env} {A₀ : Around} {base g : Heap} {L : Nat} {L₀ : Addr} {s s' : Shared}
theorem rs_swap_0 (B : Below A₀ base (envX cn cs L₀ a ccd cl :: outer) g) (XX : (K w.params).In g) (T : Top p loose mean mg mb g) (hd : dp + 12 < recursionLimit) (hu : un + 10 * 12 < cLine)
    {an af : Addr} {nn nf : Nat} {vs : List Value} {v1 v2 v3 v4 : Value} {q H mo : Int} {tq t1 t2 t3 t4 : Tok}
    {oc ol : Obj} {O : Led} {h : Heap} {tk : Nat} {m : Str → Option Value} (F : Fr g L h m) (N : News g L h ((af, listOf #[v1, v2, v3, v4] nf) :: (an, listOf vs.toArray nn) :: (L + 1 + 1, oc) :: (L + 1, ol) :: O)) (c2 : oc.data = .cell (some (.int q tq)))
    (off : ∀ q ∈ ((an, listOf vs.toArray nn) :: (L + 1 + 1, oc) :: (L + 1, ol) :: O : Led), q.1 ≠ af)
    (e1 : m (Str.ofString "four") = some (.ref af)) (e2 : m (Str.ofString "height") = some (.int H t1)) (e3 : m (Str.ofString "most") = some (.int mo t2)) (e4 : m (Str.ofString "ahead") = some (.int 0 t3)) (e5 : m (Str.ofString "near") = some (.int 0 t4))
    {Q : Flow → Shared → Prop} {E : Value → Shared → Prop}
    (hE : PassesOwn (model Pw w) ((ktrTop dp un gd cn cs L₀ a ccd cl outer).deeper (rsEnv L)) (rsEnv L) E)
    (hQ : ∀ h tk n2 ws, Fr g L h m → ws = nextF [v1, v2, v3, v4] (.int q tq) H mo 0 → News g L h ((af, listOf ws.toArray n2) :: (an, listOf vs.toArray nn) :: (L + 1 + 1, oc) :: (L + 1, ol) :: O) → Q .next { s with heap := h, toks := tk }) :
    wpAny (model Pw w) ((ktrTop dp un gd cn cs L₀ a ccd cl outer).deeper (rsEnv L)) (exec rb7.1 (rsEnv L)) Q E { s with heap := h, toks := tk } := by
  dsimp only [rsEnv, rsScope, rb7]
  k_steps
  · rename News _ _ _ _ => N9
    rename Fr _ _ _ _ => F9
    rename (BEq.beq (decide _) _) = true => hs
    refine Claim.use (dp := dp + 1) (un := un + 3) (c_set af [v1, v2, v3, v4] nf 0 (.int q tq) t4 (by show 0 < 4; decide) (by show 4 ≤ 16; decide) off) B F9 XX N9 T rfl (by omega) (by omega) ?_
    rintro r n' h2 tk2 ⟨rfl, n2, rfl⟩ F2 N2
    k_steps
    refine hQ _ _ n2 _ F2 ?_ N2
    have hss : sameSide H mo (nearN 0) = true := by rw [← hs]; rfl
    unfold nextF
    rw [if_pos hss]; rfl
  · rename News _ _ _ _ => N9
    rename Fr _ _ _ _ => F9
    rename (BEq.beq (decide _) _) = false => hs
    have hss : ¬ sameSide H mo (nearN 0) = true := by
      intro e; exact absurd (hs.symm.trans e) (by decide)
    refine Claim.use (dp := dp + 1) (un := un + 3) (c_del af [.int q tq, v1, v2, v3, v4] (nf + 1) 4 _ (by show 4 < 5; decide) (by show 5 ≤ 16; decide) off) B F9 XX (fun p hp => N9 p (.tail _ hp)) T rfl (by omega) (by omega) ?_
    rintro r n' h2 tk2 ⟨rfl, n2, rfl⟩ F2 N2
    k_steps
    refine hQ _ _ n2 _ F2 ?_ N2
    unfold nextF
    rw [if_neg hss]; rfl
theorem rs_swap_1 (B : Below A₀ base (envX cn cs L₀ a ccd cl :: outer) g) (XX : (K w.params).In g) (T : Top p loose mean mg mb g) (hd : dp + 12 < recursionLimit) (hu : un + 10 * 12 < cLine)
    {an af : Addr} {nn nf : Nat} {vs : List Value} {v1 v2 v3 v4 : Value} {q H mo : Int} {tq t1 t2 t3 t4 : Tok}
    {oc ol : Obj} {O : Led} {h : Heap} {tk : Nat} {m : Str → Option Value} (F : Fr g L h m) (N : News g L h ((af, listOf #[v1, v2, v3, v4] nf) :: (an, listOf vs.toArray nn) :: (L + 1 + 1, oc) :: (L + 1, ol) :: O)) (c2 : oc.data = .cell (some (.int q tq)))
    (off : ∀ q ∈ ((an, listOf vs.toArray nn) :: (L + 1 + 1, oc) :: (L + 1, ol) :: O : Led), q.1 ≠ af)
    (e1 : m (Str.ofString "four") = some (.ref af)) (e2 : m (Str.ofString "height") = some (.int H t1)) (e3 : m (Str.ofString "most") = some (.int mo t2)) (e4 : m (Str.ofString "ahead") = some (.int 1 t3)) (e5 : m (Str.ofString "near") = some (.int 0 t4))
    {Q : Flow → Shared → Prop} {E : Value → Shared → Prop}
    (hE : PassesOwn (model Pw w) ((ktrTop dp un gd cn cs L₀ a ccd cl outer).deeper (rsEnv L)) (rsEnv L) E)
    (hQ : ∀ h tk n2 ws, Fr g L h m → ws = nextF [v1, v2, v3, v4] (.int q tq) H mo 1 → News g L h ((af, listOf ws.toArray n2) :: (an, listOf vs.toArray nn) :: (L + 1 + 1, oc) :: (L + 1, ol) :: O) → Q .next { s with heap := h, toks := tk }) :
    wpAny (model Pw w) ((ktrTop dp un gd cn cs L₀ a ccd cl outer).deeper (rsEnv L)) (exec rb7.1 (rsEnv L)) Q E { s with heap := h, toks := tk } := by
  dsimp only [rsEnv, rsScope, rb7]
  k_steps
  · rename News _ _ _ _ => N9
    rename Fr _ _ _ _ => F9
    rename (BEq.beq (decide _) _) = true => hs
    refine Claim.use (dp := dp + 1) (un := un + 3) (c_set af [v1, v2, v3, v4] nf 0 (.int q tq) t4 (by show 0 < 4; decide) (by show 4 ≤ 16; decide) off) B F9 XX N9 T rfl (by omega) (by omega) ?_
    rintro r n' h2 tk2 ⟨rfl, n2, rfl⟩ F2 N2
    k_steps
    refine hQ _ _ n2 _ F2 ?_ N2
    have hss : sameSide H mo (nearN 1) = true := by rw [← hs]; rfl
    unfold nextF
    rw [if_pos hss]; rfl
  · rename News _ _ _ _ => N9
    rename Fr _ _ _ _ => F9
    rename (BEq.beq (decide _) _) = false => hs
    have hss : ¬ sameSide H mo (nearN 1) = true := by
      intro e; exact absurd (hs.symm.trans e) (by decide)
    refine Claim.use (dp := dp + 1) (un := un + 3) (c_set af [v1, v2, v3, v4] nf 1 (.int q tq) t3 (by show 1 < 4; decide) (by show 4 ≤ 16; decide) off) B F9 XX (fun p hp => N9 p (.tail _ hp)) T rfl (by omega) (by omega) ?_
    rintro r n' h2 tk2 ⟨rfl, n2, rfl⟩ F2 N2
    k_steps
    refine hQ _ _ n2 _ F2 ?_ N2
    unfold nextF
    rw [if_neg hss]; rfl
theorem rs_swap_2 (B : Below A₀ base (envX cn cs L₀ a ccd cl :: outer) g) (XX : (K w.params).In g) (T : Top p loose mean mg mb g) (hd : dp + 12 < recursionLimit) (hu : un + 10 * 12 < cLine)
    {an af : Addr} {nn nf : Nat} {vs : List Value} {v1 v2 v3 v4 : Value} {q H mo : Int} {tq t1 t2 t3 t4 : Tok}
    {oc ol : Obj} {O : Led} {h : Heap} {tk : Nat} {m : Str → Option Value} (F : Fr g L h m) (N : News g L h ((af, listOf #[v1, v2, v3, v4] nf) :: (an, listOf vs.toArray nn) :: (L + 1 + 1, oc) :: (L + 1, ol) :: O)) (c2 : oc.data = .cell (some (.int q tq)))
    (off : ∀ q ∈ ((an, listOf vs.toArray nn) :: (L + 1 + 1, oc) :: (L + 1, ol) :: O : Led), q.1 ≠ af)
    (e1 : m (Str.ofString "four") = some (.ref af)) (e2 : m (Str.ofString "height") = some (.int H t1)) (e3 : m (Str.ofString "most") = some (.int mo t2)) (e4 : m (Str.ofString "ahead") = some (.int 2 t3)) (e5 : m (Str.ofString "near") = some (.int 1 t4))
    {Q : Flow → Shared → Prop} {E : Value → Shared → Prop}
    (hE : PassesOwn (model Pw w) ((ktrTop dp un gd cn cs L₀ a ccd cl outer).deeper (rsEnv L)) (rsEnv L) E)
    (hQ : ∀ h tk n2 ws, Fr g L h m → ws = nextF [v1, v2, v3, v4] (.int q tq) H mo 2 → News g L h ((af, listOf ws.toArray n2) :: (an, listOf vs.toArray nn) :: (L + 1 + 1, oc) :: (L + 1, ol) :: O) → Q .next { s with heap := h, toks := tk }) :
    wpAny (model Pw w) ((ktrTop dp un gd cn cs L₀ a ccd cl outer).deeper (rsEnv L)) (exec rb7.1 (rsEnv L)) Q E { s with heap := h, toks := tk } := by
  dsimp only [rsEnv, rsScope, rb7]
  k_steps
  · rename News _ _ _ _ => N9
    rename Fr _ _ _ _ => F9
    rename (BEq.beq (decide _) _) = true => hs
    refine Claim.use (dp := dp + 1) (un := un + 3) (c_set af [v1, v2, v3, v4] nf 1 (.int q tq) t4 (by show 1 < 4; decide) (by show 4 ≤ 16; decide) off) B F9 XX N9 T rfl (by omega) (by omega) ?_
    rintro r n' h2 tk2 ⟨rfl, n2, rfl⟩ F2 N2
    k_steps
    refine hQ _ _ n2 _ F2 ?_ N2
    have hss : sameSide H mo (nearN 2) = true := by rw [← hs]; rfl
    unfold nextF
    rw [if_pos hss]; rfl
  · rename News _ _ _ _ => N9
    rename Fr _ _ _ _ => F9
    rename (BEq.beq (decide _) _) = false => hs
    have hss : ¬ sameSide H mo (nearN 2) = true := by
      intro e; exact absurd (hs.symm.trans e) (by decide)
    refine Claim.use (dp := dp + 1) (un := un + 3) (c_set af [v1, v2, v3, v4] nf 2 (.int q tq) t3 (by show 2 < 4; decide) (by show 4 ≤ 16; decide) off) B F9 XX (fun p hp => N9 p (.tail _ hp)) T rfl (by omega) (by omega) ?_
    rintro r n' h2 tk2 ⟨rfl, n2, rfl⟩ F2 N2
    k_steps
    refine hQ _ _ n2 _ F2 ?_ N2
    unfold nextF
    rw [if_neg hss]; rfl
theorem rs_swap_3 (B : Below A₀ base (envX cn cs L₀ a ccd cl :: outer) g) (XX : (K w.params).In g) (T : Top p loose mean mg mb g) (hd : dp + 12 < recursionLimit) (hu : un + 10 * 12 < cLine)
    {an af : Addr} {nn nf : Nat} {vs : List Value} {v1 v2 v3 v4 : Value} {q H mo : Int} {tq t1 t2 t3 t4 : Tok}
    {oc ol : Obj} {O : Led} {h : Heap} {tk : Nat} {m : Str → Option Value} (F : Fr g L h m) (N : News g L h ((af, listOf #[v1, v2, v3, v4] nf) :: (an, listOf vs.toArray nn) :: (L + 1 + 1, oc) :: (L + 1, ol) :: O)) (c2 : oc.data = .cell (some (.int q tq)))
    (off : ∀ q ∈ ((an, listOf vs.toArray nn) :: (L + 1 + 1, oc) :: (L + 1, ol) :: O : Led), q.1 ≠ af)
    (e1 : m (Str.ofString "four") = some (.ref af)) (e2 : m (Str.ofString "height") = some (.int H t1)) (e3 : m (Str.ofString "most") = some (.int mo t2)) (e4 : m (Str.ofString "ahead") = some (.int 3 t3)) (e5 : m (Str.ofString "near") = some (.int 2 t4))
    {Q : Flow → Shared → Prop} {E : Value → Shared → Prop}
    (hE : PassesOwn (model Pw w) ((ktrTop dp un gd cn cs L₀ a ccd cl outer).deeper (rsEnv L)) (rsEnv L) E)
    (hQ : ∀ h tk n2 ws, Fr g L h m → ws = nextF [v1, v2, v3, v4] (.int q tq) H mo 3 → News g L h ((af, listOf ws.toArray n2) :: (an, listOf vs.toArray nn) :: (L + 1 + 1, oc) :: (L + 1, ol) :: O) → Q .next { s with heap := h, toks := tk }) :
    wpAny (model Pw w) ((ktrTop dp un gd cn cs L₀ a ccd cl outer).deeper (rsEnv L)) (exec rb7.1 (rsEnv L)) Q E { s with heap := h, toks := tk } := by
  dsimp only [rsEnv, rsScope, rb7]
  k_steps
  · rename News _ _ _ _ => N9
    rename Fr _ _ _ _ => F9
    rename (BEq.beq (decide _) _) = true => hs
    refine Claim.use (dp := dp + 1) (un := un + 3) (c_set af [v1, v2, v3, v4] nf 2 (.int q tq) t4 (by show 2 < 4; decide) (by show 4 ≤ 16; decide) off) B F9 XX N9 T rfl (by omega) (by omega) ?_
    rintro r n' h2 tk2 ⟨rfl, n2, rfl⟩ F2 N2
    k_steps
    refine hQ _ _ n2 _ F2 ?_ N2
    have hss : sameSide H mo (nearN 3) = true := by rw [← hs]; rfl
    unfold nextF
    rw [if_pos hss]; rfl
  · rename News _ _ _ _ => N9
    rename Fr _ _ _ _ => F9
    rename (BEq.beq (decide _) _) = false => hs
    have hss : ¬ sameSide H mo (nearN 3) = true := by
      intro e; exact absurd (hs.symm.trans e) (by decide)
    refine Claim.use (dp := dp + 1) (un := un + 3) (c_set af [v1, v2, v3, v4] nf 3 (.int q tq) t3 (by show 3 < 4; decide) (by show 4 ≤ 16; decide) off) B F9 XX (fun p hp => N9 p (.tail _ hp)) T rfl (by omega) (by omega) ?_
    rintro r n' h2 tk2 ⟨rfl, n2, rfl⟩ F2 N2
    k_steps
    refine hQ _ _ n2 _ F2 ?_ N2
    unfold nextF
    rw [if_neg hss]; rfl
theorem rs_swap_4 (B : Below A₀ base (envX cn cs L₀ a ccd cl :: outer) g) (XX : (K w.params).In g) (T : Top p loose mean mg mb g) (hd : dp + 12 < recursionLimit) (hu : un + 10 * 12 < cLine)
    {an af : Addr} {nn nf : Nat} {vs : List Value} {v1 v2 v3 v4 : Value} {q H mo : Int} {tq t1 t2 t3 t4 : Tok}
    {oc ol : Obj} {O : Led} {h : Heap} {tk : Nat} {m : Str → Option Value} (F : Fr g L h m) (N : News g L h ((af, listOf #[v1, v2, v3, v4] nf) :: (an, listOf vs.toArray nn) :: (L + 1 + 1, oc) :: (L + 1, ol) :: O)) (c2 : oc.data = .cell (some (.int q tq)))
    (off : ∀ q ∈ ((an, listOf vs.toArray nn) :: (L + 1 + 1, oc) :: (L + 1, ol) :: O : Led), q.1 ≠ af)
    (e1 : m (Str.ofString "four") = some (.ref af)) (e2 : m (Str.ofString "height") = some (.int H t1)) (e3 : m (Str.ofString "most") = some (.int mo t2)) (e4 : m (Str.ofString "ahead") = some (.int 4 t3)) (e5 : m (Str.ofString "near") = some (.int 3 t4))
    {Q : Flow → Shared → Prop} {E : Value → Shared → Prop}
    (hE : PassesOwn (model Pw w) ((ktrTop dp un gd cn cs L₀ a ccd cl outer).deeper (rsEnv L)) (rsEnv L) E)
    (hQ : ∀ h tk n2 ws, Fr g L h m → ws = nextF [v1, v2, v3, v4] (.int q tq) H mo 4 → News g L h ((af, listOf ws.toArray n2) :: (an, listOf vs.toArray nn) :: (L + 1 + 1, oc) :: (L + 1, ol) :: O) → Q .next { s with heap := h, toks := tk }) :
    wpAny (model Pw w) ((ktrTop dp un gd cn cs L₀ a ccd cl outer).deeper (rsEnv L)) (exec rb7.1 (rsEnv L)) Q E { s with heap := h, toks := tk } := by
  dsimp only [rsEnv, rsScope, rb7]
  k_steps
  · rename News _ _ _ _ => N9
    rename Fr _ _ _ _ => F9
    rename (BEq.beq (decide _) _) = true => hs
    refine Claim.use (dp := dp + 1) (un := un + 3) (c_set af [v1, v2, v3, v4] nf 3 (.int q tq) t4 (by show 3 < 4; decide) (by show 4 ≤ 16; decide) off) B F9 XX N9 T rfl (by omega) (by omega) ?_
    rintro r n' h2 tk2 ⟨rfl, n2, rfl⟩ F2 N2
    k_steps
    refine hQ _ _ n2 _ F2 ?_ N2
    have hss : sameSide H mo (nearN 4) = true := by rw [← hs]; rfl
    unfold nextF
    rw [if_pos hss]; rfl
  · rename News _ _ _ _ => N9
    rename Fr _ _ _ _ => F9
    rename (BEq.beq (decide _) _) = false => hs
    have hss : ¬ sameSide H mo (nearN 4) = true := by
      intro e; exact absurd (hs.symm.trans e) (by decide)
    refine Claim.use (dp := dp + 1) (un := un + 3) (c_del af [v1, v2, v3, v4, .int q tq] (nf + 1) 0 _ (by show 0 < 5; decide) (by show 5 ≤ 16; decide) off) B F9 XX (fun p hp => N9 p (.tail _ hp)) T rfl (by omega) (by omega) ?_
    rintro r n' h2 tk2 ⟨rfl, n2, rfl⟩ F2 N2
    k_steps
    refine hQ _ _ n2 _ F2 ?_ N2
    unfold nextF
    rw [if_neg hss]; rfl
theorem rs_swap_all (B : Below A₀ base (envX cn cs L₀ a ccd cl :: outer) g) (XX : (K w.params).In g) (T : Top p loose mean mg mb g) (hd : dp + 12 < recursionLimit) (hu : un + 10 * 12 < cLine)
    {an af : Addr} {ah : Nat} (hah : ah ≤ 4) {nn nf : Nat} {vs : List Value} {v1 v2 v3 v4 : Value} {q H mo : Int} {tq t1 t2 t3 t4 : Tok}
    {oc ol : Obj} {O : Led} {h : Heap} {tk : Nat} {m : Str → Option Value} (F : Fr g L h m) (N : News g L h ((af, listOf #[v1, v2, v3, v4] nf) :: (an, listOf vs.toArray nn) :: (L + 1 + 1, oc) :: (L + 1, ol) :: O)) (c2 : oc.data = .cell (some (.int q tq)))
    (off : ∀ q ∈ ((an, listOf vs.toArray nn) :: (L + 1 + 1, oc) :: (L + 1, ol) :: O : Led), q.1 ≠ af)
    (e1 : m (Str.ofString "four") = some (.ref af)) (e2 : m (Str.ofString "height") = some (.int H t1)) (e3 : m (Str.ofString "most") = some (.int mo t2)) (e4 : m (Str.ofString "ahead") = some (.int (ah : Nat) t3)) (e5 : m (Str.ofString "near") = some (.int (nearN ah : Nat) t4))
    {Q : Flow → Shared → Prop} {E : Value → Shared → Prop}
    (hE : PassesOwn (model Pw w) ((ktrTop dp un gd cn cs L₀ a ccd cl outer).deeper (rsEnv L)) (rsEnv L) E)
    (hQ : ∀ h tk n2 ws, Fr g L h m → ws = nextF [v1, v2, v3, v4] (.int q tq) H mo ah → News g L h ((af, listOf ws.toArray n2) :: (an, listOf vs.toArray nn) :: (L + 1 + 1, oc) :: (L + 1, ol) :: O) → Q .next { s with heap := h, toks := tk }) :
    wpAny (model Pw w) ((ktrTop dp un gd cn cs L₀ a ccd cl outer).deeper (rsEnv L)) (exec rb7.1 (rsEnv L)) Q E { s with heap := h, toks := tk } := by
  match ah, hah with
  | 0, _ => exact rs_swap_0 B XX T hd hu F N c2 off e1 e2 e3 e4 e5 hE hQ
  | 1, _ => exact rs_swap_1 B XX T hd hu F N c2 off e1 e2 e3 e4 e5 hE hQ
  | 2, _ => exact rs_swap_2 B XX T hd hu F N c2 off e1 e2 e3 e4 e5 hE hQ
  | 3, _ => exact rs_swap_3 B XX T hd hu F N c2 off e1 e2 e3 e4 e5 hE hQ
  | 4, _ => exact rs_swap_4 B XX T hd hu F N c2 off e1 e2 e3 e4 e5 hE hQ
end

end Mine
end
theorem Mine.look34 : True := by first | (walk1; fail) | trivial
section
open PySem PySem.W PyProof.Rows PySem.Calls
set_option maxHeartbeats 4000000
namespace Mine
variable {w : World} {p : Program} {loose : List Str} {mean : ExcName → Option Value} {mg mb : Str → Option Value} {news : List (Addr × Obj)}
--OPS
local macro_rules | `(tactic| walk_at "eval ListComp") => `(tactic| (k_here; k_dflt (refine ListComp_H (h := ?_))))
local macro_rules | `(tactic| walk_at "exec Assign cons ListComp") => `(tactic| (k_here; k_dflt (refine Assign_ListComp_H (h := ?_))))
local macro_rules | `(tactic| walk_at "call ref") => `(tactic| (k_here; k_dflt ((first | ((with_reducible refine atR 228 ?_); refine ask_rule ?_) | ((with_reducible refine atR 235 ?_); refine miss_rule ?_) | ((with_reducible refine atR 148 ?_); refine Claim.goB c_gt ?_) | ((with_reducible refine atR 221 ?_); refine size_rule ?_; intros; rename_i l; k_lt l)); k_whole; intros; (try dsimp only))))
section
variable {dp un : Nat} {gd : Option (List Code)} {cn : Str} {cs : Scope} {a : Addr} {ccd : Value} {cl : List (Str × Addr)} {outer : List Env} {A₀ : Around} {base g : Heap} {L : Nat} {L₀ : Addr} {s s' : Shared}
theorem rs_ask (B : Below A₀ base (envX cn cs L₀ a ccd cl :: outer) g) (XX : (K w.params).In g) (T : Top p loose mean mg mb g) (hd : dp + 12 < recursionLimit) (hu : un + 10 * 12 < cLine)
    {an af : Addr} {nn nf : Nat} {vs : List Value} {zs : List Int} (hzv : IntsAre vs zs) (hz : zs.length = 6) (hzb : ∀ n, Bd 6 (zs.getD n 0)) {i j k l : Int} {ta tb tc td : Tok} (h0 : 0 ≤ i) (h1 : i < j) (h2 : j < k) (h3 : k < l) (h4 : l < 6)
    {oc ol : Obj} {O : Led} (hOc : ∀ p ∈ O, p.1 ≠ L + 1 + 1) (han : @Ne Nat an (L + 1 + 1)) (haf : @Ne Nat af (L + 1 + 1)) {cv : Option Value} (c2 : oc.data = .cell cv) (bS : Bd 10 (askedS i j k)) (bH : Bd 20 (askedH (zf zs) i j k l))
    {h : Heap} {tk : Nat} {m : Str → Option Value} (F : Fr g L h m) (N : News g L h ((an, listOf vs.toArray nn) :: (af, listOf #[.int i ta, .int j tb, .int k tc, .int l td] nf) :: (L + 1 + 1, oc) :: (L + 1, ol) :: O)) (e1 : m (Str.ofString "numbers") = some (.ref an)) (e2 : m (Str.ofString "four") = some (.ref af))
    {Q : Flow → Shared → Prop} {E : Value → Shared → Prop}
    (hE : PassesOwn (model Pw w) ((ktrTop dp un gd cn cs L₀ a ccd cl outer).deeper (rsEnv L)) (rsEnv L) E)
    (hQ : ∀ h tk m' oc' t1 t2 t3 t4, Fr g L h m' → News g L h ((an, listOf vs.toArray nn) :: (af, listOf #[.int i ta, .int j tb, .int k tc, .int l td] nf) :: (L + 1 + 1, oc') :: (L + 1, ol) :: O) → oc'.data = .cell (some (.int (-1) t4)) →
      m' (Str.ofString "numbers") = some (.ref an) → m' (Str.ofString "four") = some (.ref af) → m' (Str.ofString "height") = some (.int (askedH (zf zs) i j k l) t1) → m' (Str.ofString "whole") = some (.int (askedW i j k l) t2) → m' (Str.ofString "most") = some (.int (askedS i j k * askedH (zf zs) i j k l) t3) →
      Q .next { s with heap := h, toks := tk }) :
    wpAny (model Pw w) ((ktrTop dp un gd cn cs L₀ a ccd cl outer).deeper (rsEnv L)) (execs [rb1.1, rb2.1] (rsEnv L)) Q E { s with heap := h, toks := tk } := by
  dsimp only [rsEnv, rsScope, rb1, rb2]
  k_steps
  rename News _ _ _ _ => N9
  rename Fr _ _ _ _ => F9
  refine hQ _ _ _ _ _ _ _ _ F9 (fun p hp => N9 p (.tail _ (.tail _ hp))) (by assumption) (by with_unfolding_all exact e1) (by with_unfolding_all exact e2) (by with_unfolding_all rfl) (by with_unfolding_all rfl) (by with_unfolding_all rfl)
end

end Mine
end
theorem Mine.look35 : True := by first | (walk1; fail) | trivial
section
open PySem PySem.W PyProof.Rows PySem.Calls
set_option maxHeartbeats 4000000
namespace Mine
variable {w : World} {p : Program} {loose : List Str} {mean : ExcName → Option Value} {mg mb : Str → Option Value} {news : List (Addr × Obj)}
--OPS
theorem all_lt_of {d : Nat} : ∀ {l : List (Addr × Obj)}, (∀ q ∈ l, q.1 < d) → AllLt d l
  | [], _ => trivial
  | _ :: _, h => ⟨h _ (.head _), all_lt_of fun q hq => h q (.tail _ hq)⟩
local macro_rules | `(tactic| walk_at "eval ListComp") => `(tactic| (k_here; k_dflt (refine ListComp_H (h := ?_))))
local macro_rules | `(tactic| walk_at "exec Assign cons ListComp") => `(tactic| (k_here; k_dflt (refine Assign_ListComp_H (h := ?_))))
local macro_rules | `(tactic| walk_at "call ref") => `(tactic| (k_here; k_dflt ((first | ((with_reducible refine atR 228 ?_); refine ask_rule ?_) | ((with_reducible refine atR 235 ?_); refine miss_rule ?_) | ((with_reducible refine atR 148 ?_); refine Claim.goB c_gt ?_) | ((with_reducible refine atR 221 ?_); refine size_rule ?_; intros; rename_i l; k_lt l)); k_whole; intros; (try dsimp only))))
theorem mem_rot {a b c p : Addr × Obj} {r : Led} (h : p ∈ c :: a :: b :: r) : p ∈ a :: b :: c :: r := by
  rcases List.mem_cons.mp h with rfl | h
  · exact .tail _ (.tail _ (.head _))
  rcases List.mem_cons.mp h with rfl | h
  · exact .head _
  rcases List.mem_cons.mp h with rfl | h
  · exact .tail _ (.head _)
  exact .tail _ (.tail _ (.tail _ h))
section
variable {dp un : Nat} {gd : Option (List Code)} {cn : Str} {cs : Scope} {a : Addr} {ccd : Value} {cl : List (Str × Addr)} {outer : List Env} {A₀ : Around} {base g : Heap} {L : Nat} {L₀ : Addr} {s s' : Shared}
theorem rs_look (B : Below A₀ base (envX cn cs L₀ a ccd cl :: outer) g) (XX : (K w.params).In g) (T : Top p loose mean mg mb g) (hd : dp + 12 < recursionLimit) (hu : un + 10 * 12 < cLine)
    {an af : Addr} {nn nf : Nat} {vs : List Value} {zs : List Int} (hzv : IntsAre vs zs) (hz : zs.length = 6) (hzb : ∀ n, Bd 6 (zs.getD n 0)) {i j k l : Int} {ta tb tc td : Tok} (h0 : 0 ≤ i) (h1 : i < j) (h2 : j < k) (h3 : k < l) (h4 : l < 6)
    {ol : Obj} {O : Led} (hOc : ∀ p ∈ O, p.1 ≠ L + 1 + 1) (han : @Ne Nat an (L + 1 + 1)) (haf : @Ne Nat af (L + 1 + 1))
    {h : Heap} {tk : Nat} {m : Str → Option Value} {oc : Obj} {t1 t2 t3 t4 : Tok} (F : Fr g L h m) (N : News g L h ((an, listOf vs.toArray nn) :: (af, listOf #[.int i ta, .int j tb, .int k tc, .int l td] nf) :: (L + 1 + 1, oc) :: (L + 1, ol) :: O)) (c2 : oc.data = .cell (some (.int (-1) t4)))
    (e1 : m (Str.ofString "numbers") = some (.ref an)) (e2 : m (Str.ofString "four") = some (.ref af)) (e3 : m (Str.ofString "height") = some (.int (askedH (zf zs) i j k l) t1)) (e4 : m (Str.ofString "whole") = some (.int (askedW i j k l) t2)) (e5 : m (Str.ofString "most") = some (.int (askedS i j k * askedH (zf zs) i j k l) t3))
    {Q : Flow → Shared → Prop} {E : Value → Shared → Prop}
    (hE : PassesOwn (model Pw w) ((ktrTop dp un gd cn cs L₀ a ccd cl outer).deeper (rsEnv L)) (rsEnv L) E)
    (hQ : ∀ h tk m' oc' t3 t4, Fr g L h m' → News g L h ((an, listOf vs.toArray nn) :: (af, listOf #[.int i ta, .int j tb, .int k tc, .int l td] nf) :: (L + 1 + 1, oc') :: (L + 1, ol) :: O) → oc'.data = .cell (some (.int (pk (zf zs) i j k l 6).2 t4)) →
      m' (Str.ofString "numbers") = some (.ref an) → m' (Str.ofString "four") = some (.ref af) → m' (Str.ofString "height") = some (.int (askedH (zf zs) i j k l) t1) → m' (Str.ofString "whole") = some (.int (askedW i j k l) t2) → m' (Str.ofString "most") = some (.int (pk (zf zs) i j k l 6).1 t3) →
      Q .next { s with heap := h, toks := tk }) :
    wpAny (model Pw w) ((ktrTop dp un gd cn cs L₀ a ccd cl outer).deeper (rsEnv L)) (exec rb3.1 (rsEnv L)) Q E { s with heap := h, toks := tk } := by
  have bH := askedH_bd hzb h0 h1 h2 h3 h4
  have bW := askedW_bd h0 h1 h2 h3 h4
  dsimp only [rsEnv, rsScope, rb3]
  refine for_led (s₀ := s) (h₀ := g) (fun n m led => ∃ oc t3 t4, led = ((an, listOf vs.toArray nn) :: (af, listOf #[.int i ta, .int j tb, .int k tc, .int l td] nf) :: (L + 1 + 1, oc) :: (L + 1, ol) :: O) ∧ oc.data = .cell (some (.int (pk (zf zs) i j k l n).2 t4)) ∧
      m (Str.ofString "numbers") = some (.ref an) ∧ m (Str.ofString "four") = some (.ref af) ∧ m (Str.ofString "height") = some (.int (askedH (zf zs) i j k l) t1) ∧ m (Str.ofString "whole") = some (.int (askedW i j k l) t2) ∧ m (Str.ofString "most") = some (.int (pk (zf zs) i j k l n).1 t3)) 6 (fun i v => ∃ t, v = .int (0 + i) t) ?_ ?_ ?_ (hE := hE)
  · k_steps
    rename News _ _ _ _ => N9
    rename Fr _ _ _ _ => F9
    exact ready_range (a₀ := 0) _ rfl (by assumption) (by decide) rfl F9 N9 ⟨oc, t3, t4, rfl, c2, e1, e2, e3, e4, e5⟩ ⟨rfl, rfl, rfl⟩
  rotate_left
  · rintro m₁ led hh tkk ⟨oc, t3, t4, rfl, c2, e1, e2, e3, e4, e5⟩ F1 N1
    exact hQ _ _ _ _ _ _ F1 N1 c2 e1 e2 e3 e4 e5
  clear F N c2 e1 e2 e3 e4 e5
  rintro n v m₁ led hh tkk I₁ o₁ hn ⟨t, rfl⟩ ⟨oc, t3, t4, rfl, c2, e1, e2, e3, e4, e5⟩ F1 N1 hI1
  rw [Int.zero_add] at F1
  have N2 : News g L hh ((an, listOf vs.toArray nn) :: (af, listOf #[.int i ta, .int j tb, .int k tc, .int l td] nf) :: (I₁, o₁) :: (L + 1 + 1, oc) :: (L + 1, ol) :: O) := fun p hp => N1 p (by
    simp only [List.mem_cons] at hp ⊢
    rcases hp with h | h | h | h | h | h <;> simp [h])
  clear N1
  have iC : @Ne Nat I₁ (L + 1 + 1) := Ne.symm (hI1 (L + 1 + 1, oc) (.tail _ (.tail _ (.head _))))
  have bm := pk_bd hzb h0 h1 h2 h3 h4 n (by omega)
  have bms := missed_bd hzb h0 h1 h2 h3 h4 bH bW (p := n) (by omega) (by omega)
  have hany : ∀ b, ([i, j, k, l].any fun x => x == (n : Int)) = b → (b = true ↔ ((n : Int) = i ∨ (n : Int) = j ∨ (n : Int) = k ∨ (n : Int) = l)) := by
    rintro b rfl
    simp only [List.any_cons, List.any_nil, Bool.or_false, Bool.or_eq_true, beq_iff_eq]
    exact ⟨fun h => h.imp Eq.symm fun h => h.imp Eq.symm fun h => h.imp Eq.symm Eq.symm, fun h => h.imp Eq.symm fun h => h.imp Eq.symm fun h => h.imp Eq.symm Eq.symm⟩
  have hIo : ∀ oc', ∀ q ∈ ((an, listOf vs.toArray nn) :: (af, listOf #[.int i ta, .int j tb, .int k tc, .int l td] nf) :: (L + 1 + 1, oc') :: (L + 1, ol) :: O : Led), q.1 ≠ I₁ := by
    intro oc' q hq
    simp only [List.mem_cons] at hq
    rcases hq with rfl | rfl | rfl | rfl | h
    · exact hI1 (an, listOf vs.toArray nn) (.head _)
    · exact hI1 (af, listOf #[.int i ta, .int j tb, .int k tc, .int l td] nf) (.tail _ (.head _))
    · exact Ne.symm iC
    · exact hI1 (L + 1, ol) (.tail _ (.tail _ (.tail _ (.head _))))
    · exact hI1 q (.tail _ (.tail _ (.tail _ (.tail _ h))))
  k_steps
  · rename _ = true => hb
    have hin := (hany _ hb).mp rfl
    dsimp only
    refine ⟨_, _, _, _, rfl, by assumption, fun p hp => N2 p ?_, hIo oc, oc, t3, t4, rfl, by rw [pk_in hin]; exact c2, by with_unfolding_all exact e1, by with_unfolding_all exact e2, by with_unfolding_all exact e3, by with_unfolding_all exact e4, by rw [pk_in hin]; with_unfolding_all exact e5⟩
    simp only [List.mem_cons] at hp ⊢
    rcases hp with h | h | h | h | h | h <;> simp [h]
  · rename List.any _ _ = false => hb
    have hin : ¬ ((n : Int) = i ∨ (n : Int) = j ∨ (n : Int) = k ∨ (n : Int) = l) := fun q => absurd ((hany _ hb).mpr q) (by decide)
    rename Nat.lt _ _ => hlt
    rename Fr _ _ _ _ => F9
    rename News _ _ _ _ => N9
    dsimp only
    refine ⟨_, _, _, _, rfl, F9, fun p hp => N9 p ?_, hIo _, _, _, _, rfl, by rw [pk_gt hin hlt]; assumption, by with_unfolding_all exact e1, by with_unfolding_all exact e2, by with_unfolding_all exact e3, by with_unfolding_all exact e4, by rw [pk_gt hin hlt]; with_unfolding_all rfl⟩
    exact .tail _ (.tail _ (.tail _ (mem_rot hp)))
  · rename List.any _ _ = false => hb
    rename ¬ Nat.lt _ _ => hlt
    have hin : ¬ ((n : Int) = i ∨ (n : Int) = j ∨ (n : Int) = k ∨ (n : Int) = l) := fun q => absurd ((hany _ hb).mpr q) (by decide)
    rename Fr _ _ _ _ => F9
    rename News _ _ _ _ => N9
    dsimp only
    refine ⟨_, _, _, _, rfl, F9, fun p hp => N9 p ?_, hIo oc, oc, t3, t4, rfl, by rw [pk_le hin hlt]; exact c2, by with_unfolding_all exact e1, by with_unfolding_all exact e2, by with_unfolding_all exact e3, by with_unfolding_all exact e4, by rw [pk_le hin hlt]; with_unfolding_all exact e5⟩
    exact .tail _ (.tail _ (mem_rot hp))
end

end Mine
end
theorem Mine.look36 : True := by first | (walk1; fail) | trivial
end
theorem Mine.look37 : True := by first | (walk1; fail) | trivial
section
open PySem PySem.W
namespace Mine
/-- the second four's ratio is no greater than the first's -/
noncomputable def Le (z : Int → Int) (i j k l a b c d : Int) : Prop := mx (dueV z a b c d) * partsV i j k l ≤ mx (dueV z i j k l) * partsV a b c d
theorem due_quad (a b c d u v w : Int) : (c - b) * (d - b) * (d - c) * (u * a * a + v * a + w) - (c - a) * (d - a) * (d - c) * (u * b * b + v * b + w) + (b - a) * (d - a) * (d - b) * (u * c * c + v * c + w) - (b - a) * (c - a) * (c - b) * (u * d * d + v * d + w) = 0 := by grind
theorem due_lin (p q r s t z1 z2 z3 z4 q1 q2 q3 q4 : Int) : p * (t * z1 - q1) - q * (t * z2 - q2) + r * (t * z3 - q3) - s * (t * z4 - q4) = t * (p * z1 - q * z2 + r * z3 - s * z4) - (p * q1 - q * q2 + r * q3 - s * q4) := by grind
theorem quad_form (A B C i j k x : Int) : A * (x - j) * (x - k) * (k - j) - B * (x - i) * (x - k) * (k - i) + C * (x - i) * (x - j) * (j - i) = (A * (k - j) - B * (k - i) + C * (j - i)) * x * x + (- A * (k - j) * (j + k) + B * (k - i) * (i + k) - C * (j - i) * (i + j)) * x + (A * (k - j) * j * k - B * (k - i) * i * k + C * (j - i) * i * j) := by grind
theorem due_missed (z : Int → Int) (i j k h w a b c d : Int) : dueV (missedV z i j k h w) a b c d = (j - i) * (k - i) * (k - j) * w * dueV z a b c d := by
  unfold dueV missedV
  rw [quad_form, quad_form, quad_form, quad_form, due_lin, due_quad, Int.sub_zero]
theorem asked_due (z : Int → Int) (i j k l : Int) : askedH z i j k l = dueV z i j k l := by unfold askedH dueV; omega
theorem asked_parts (i j k l : Int) : askedW i j k l = partsV i j k l := by unfold askedW partsV; omega
theorem miss_i (z : Int → Int) (i j k h w : Int) : missedV z i j k h w i = askedS i j k * h := by unfold missedV askedS; grind
theorem miss_j (z : Int → Int) (i j k h w : Int) : missedV z i j k h w j = -(askedS i j k * h) := by unfold missedV askedS; grind
theorem miss_k (z : Int → Int) (i j k h w : Int) : missedV z i j k h w k = askedS i j k * h := by unfold missedV askedS; grind
theorem miss_l_aux (P Q R S w h zi zj zk zl : Int) (hw : w = P + Q + R + S) (hh : h = P * zi - Q * zj + R * zk - S * zl) : S * w * zl - ((w * zi - h) * P - (w * zj + h) * Q + (w * zk - h) * R) = -(S * h) := by grind
theorem miss_l (z : Int → Int) (i j k l : Int) : missedV z i j k (askedH z i j k l) (askedW i j k l) l = -(askedS i j k * askedH z i j k l) := by
  have h1 : ∀ x : Int, x * (l - j) * (l - k) * (k - j) = x * ((k - j) * (l - j) * (l - k)) := by intro x; grind
  have h2 : ∀ x : Int, x * (l - i) * (l - k) * (k - i) = x * ((k - i) * (l - i) * (l - k)) := by intro x; grind
  have h3 : ∀ x : Int, x * (l - i) * (l - j) * (j - i) = x * ((j - i) * (l - i) * (l - j)) := by intro x; grind
  unfold missedV askedS
  rw [h1, h2, h3]
  exact miss_l_aux _ _ _ _ _ _ _ _ _ _ (by rw [asked_parts]; rfl) (by rw [asked_due]; rfl)
theorem mul_bd {w x M : Int} (hw : 0 ≤ w) (h1 : x ≤ M) (h2 : -x ≤ M) : w * x ≤ w * M ∧ -(w * x) ≤ w * M := by
  refine ⟨Int.mul_le_mul_of_nonneg_left h1 hw, ?_⟩
  have := Int.mul_le_mul_of_nonneg_left h2 hw
  rwa [Int.mul_neg] at this
theorem pos3 {x y z : Int} (hx : 0 < x) (hy : 0 < y) (hz : 0 < z) : 0 < x * y * z := Int.mul_pos (Int.mul_pos hx hy) hz
theorem mx_pos {x : Int} (h : 0 ≤ x) : mx x = x := if_neg (Int.not_lt.mpr (Int.le_trans (Int.neg_nonpos_of_nonneg h) h))
theorem mx_neg {x : Int} (h : x ≤ 0) : mx x = -x := by
  rcases Int.lt_or_eq_of_le h with h | rfl
  · exact if_pos (Int.lt_trans h (Int.neg_pos_of_neg h))
  · rfl
theorem sub_pos' {a b : Int} (h : a < b) : 0 < b - a := Int.sub_pos_of_lt h
theorem mx_abs (x : Int) : mx x = (x.natAbs : Int) := (Int.le_total 0 x).elim (fun h => (mx_pos h).trans (Int.natAbs_of_nonneg h).symm) fun h => (mx_neg h).trans (Int.ofNat_natAbs_of_nonpos h).symm
theorem abs_both (x : Int) : x ≤ (x.natAbs : Int) ∧ -x ≤ (x.natAbs : Int) := ⟨Int.le_natAbs, Int.natAbs_neg x ▸ Int.le_natAbs (a := -x)⟩
theorem neg4 (x y z w : Int) : -(x - y + z - w) = -x + y + -z + w := by omega
/-- what the six places miss by at most, the fours' dues are at most -/
theorem due_bd {R : Int → Int} {M a b c d : Int} (hR : ∀ x, 0 ≤ x → x < 6 → R x ≤ M ∧ -R x ≤ M) (h0 : 0 ≤ a) (h1 : a < b) (h2 : b < c) (h3 : c < d) (h4 : d < 6) : dueV R a b c d ≤ M * partsV a b c d ∧ -dueV R a b c d ≤ M * partsV a b c d := by
  have bd := Int.lt_trans h2 h3
  have ac := Int.lt_trans h1 h2
  have ad := Int.lt_trans ac h3
  have b0 := Int.le_trans h0 (Int.le_of_lt h1)
  have c0 := Int.le_trans b0 (Int.le_of_lt h2)
  have r1 := hR a h0 (Int.lt_trans ad h4)
  have r2 := hR b b0 (Int.lt_trans bd h4)
  have r3 := hR c c0 (Int.lt_trans h3 h4)
  have r4 := hR d (Int.le_trans c0 (Int.le_of_lt h3)) h4
  have e1 := mul_bd (Int.le_of_lt (pos3 (sub_pos' h2) (sub_pos' bd) (sub_pos' h3))) r1.1 r1.2
  have e2 := mul_bd (Int.le_of_lt (pos3 (sub_pos' ac) (sub_pos' ad) (sub_pos' h3))) r2.1 r2.2
  have e3 := mul_bd (Int.le_of_lt (pos3 (sub_pos' h1) (sub_pos' ad) (sub_pos' bd))) r3.1 r3.2
  have e4 := mul_bd (Int.le_of_lt (pos3 (sub_pos' h1) (sub_pos' ac) (sub_pos' h2))) r4.1 r4.2
  have e5 : M * partsV a b c d = (c - b) * (d - b) * (d - c) * M + (c - a) * (d - a) * (d - c) * M + (b - a) * (d - a) * (d - b) * M + (b - a) * (c - a) * (c - b) * M := by
    unfold partsV; rw [Int.mul_comm, Int.add_mul, Int.add_mul, Int.add_mul]
  rw [e5]
  unfold dueV
  refine ⟨Int.add_le_add (Int.add_le_add (Int.add_le_add e1.1 e2.2) e3.1) e4.2, ?_⟩
  rw [neg4]
  exact Int.add_le_add (Int.add_le_add (Int.add_le_add e1.2 e2.1) e3.2) e4.1
/-- nothing misses more than the four itself: no four has a greater ratio -/
theorem rest_le (z : Int → Int) {i j k l : Int} (i0 : 0 ≤ i) (ij : i < j) (jk : j < k) (kl : k < l) (l6 : l < 6)
    (h : ∀ p, 0 ≤ p → p < 6 → ¬ (p = i ∨ p = j ∨ p = k ∨ p = l) → (missedV z i j k (askedH z i j k l) (askedW i j k l) p).natAbs ≤ (askedS i j k * askedH z i j k l).natAbs)
    {a b c d : Int} (h0 : 0 ≤ a) (h1 : a < b) (h2 : b < c) (h3 : c < d) (h4 : d < 6) : Le z i j k l a b c d := by
  have hS : 0 < askedS i j k := pos3 (sub_pos' ij) (sub_pos' (Int.lt_trans ij jk)) (sub_pos' jk)
  have hb := due_bd (R := missedV z i j k (askedH z i j k l) (askedW i j k l)) (M := ((askedS i j k * askedH z i j k l).natAbs : Int)) (fun x hx0 hx6 => by
    by_cases q1 : x = i
    · subst q1; rw [miss_i]; exact abs_both _
    by_cases q2 : x = j
    · subst q2; rw [miss_j, Int.neg_neg]; exact (abs_both _).symm
    by_cases q3 : x = k
    · subst q3; rw [miss_k]; exact abs_both _
    by_cases q4 : x = l
    · subst q4; rw [miss_l, Int.neg_neg]; exact (abs_both _).symm
    have := Int.ofNat_le.mpr (h x hx0 hx6 fun e => e.elim q1 fun e => e.elim q2 fun e => e.elim q3 q4)
    exact ⟨Int.le_trans (abs_both _).1 this, Int.le_trans (abs_both _).2 this⟩) h0 h1 h2 h3 h4
  rw [due_missed] at hb
  unfold Le
  rw [mx_abs, mx_abs, ← asked_due z i j k l, ← asked_parts i j k l]
  rw [Int.natAbs_mul] at hb
  have hSa : ((askedS i j k).natAbs : Int) = askedS i j k := Int.natAbs_of_nonneg (Int.le_of_lt hS)
  rw [Int.natCast_mul, hSa] at hb
  have eS : (j - i) * (k - i) * (k - j) = askedS i j k := rfl
  rw [eS] at hb
  have key : askedS i j k * ((dueV z a b c d).natAbs * askedW i j k l) ≤ askedS i j k * ((askedH z i j k l).natAbs * partsV a b c d) := by
    have e1 : askedS i j k * ((askedH z i j k l).natAbs * partsV a b c d) = askedS i j k * ((askedH z i j k l).natAbs : Int) * partsV a b c d := by rw [Int.mul_assoc]
    rw [e1]
    rcases Int.le_total 0 (dueV z a b c d) with g | g
    · have e2 : ((dueV z a b c d).natAbs : Int) = dueV z a b c d := Int.natAbs_of_nonneg g
      rw [e2, Int.mul_comm (dueV z a b c d), ← Int.mul_assoc]; exact hb.1
    · have e2 : ((dueV z a b c d).natAbs : Int) = -dueV z a b c d := Int.ofNat_natAbs_of_nonpos g
      rw [e2, Int.mul_comm (-dueV z a b c d), ← Int.mul_assoc, Int.mul_neg]; exact hb.2
  exact Int.le_of_mul_le_mul_left key hS
end Mine

end
section
open PySem PySem.W
namespace Mine
/-- the second four's ratio is greater than the first's -/
noncomputable abbrev Gt (z : Int → Int) (i j k l a b c d : Int) : Prop := mx (dueV z i j k l) * partsV a b c d < mx (dueV z a b c d) * partsV i j k l
/-- what an exchange brings: a four in order, of greater ratio -/
noncomputable def Next (z : Int → Int) (i j k l : Int) (f : List Int) : Prop := ∃ a b c d : Int, f = [a, b, c, d] ∧ 0 ≤ a ∧ a < b ∧ b < c ∧ c < d ∧ d < 6 ∧ Gt z i j k l a b c d
theorem sum_lt {A B C D a b c d : Int} (h1 : A ≤ a) (h2 : B ≤ b) (h3 : C ≤ c) (h4 : D ≤ d) (h : A < a ∨ B < b ∨ C < c ∨ D < d) : A + B + C + D < a + b + c + d :=
  h.elim (fun h => Int.add_lt_add_of_lt_of_le (Int.add_lt_add_of_lt_of_le (Int.add_lt_add_of_lt_of_le h h2) h3) h4) fun h => h.elim (fun h => Int.add_lt_add_of_lt_of_le (Int.add_lt_add_of_lt_of_le (Int.add_lt_add_of_le_of_lt h1 h) h3) h4) fun h =>
    h.elim (fun h => Int.add_lt_add_of_lt_of_le (Int.add_lt_add_of_le_of_lt (Int.add_le_add h1 h2) h) h4) fun h => Int.add_lt_add_of_le_of_lt (Int.add_le_add (Int.add_le_add h1 h2) h3) h
theorem exch_core {pa pb pc pd ra rb rc rd M : Int} (ha : 0 < pa) (hb : 0 < pb) (hc : 0 < pc) (hd : 0 < pd) (h1 : M ≤ ra) (h2 : M ≤ rb) (h3 : M ≤ rc) (h4 : M ≤ rd) (h : M < ra ∨ M < rb ∨ M < rc ∨ M < rd) : M * (pa + pb + pc + pd) < pa * ra + pb * rb + pc * rc + pd * rd := by
  rw [Int.mul_comm, Int.add_mul, Int.add_mul, Int.add_mul]
  refine sum_lt (Int.mul_le_mul_of_nonneg_left h1 (Int.le_of_lt ha)) (Int.mul_le_mul_of_nonneg_left h2 (Int.le_of_lt hb)) (Int.mul_le_mul_of_nonneg_left h3 (Int.le_of_lt hc)) (Int.mul_le_mul_of_nonneg_left h4 (Int.le_of_lt hd)) ?_
  rcases h with h | h | h | h
  · exact .inl (Int.mul_lt_mul_of_pos_left h ha)
  · exact .inr (.inl (Int.mul_lt_mul_of_pos_left h hb))
  · exact .inr (.inr (.inl (Int.mul_lt_mul_of_pos_left h hc)))
  · exact .inr (.inr (.inr (Int.mul_lt_mul_of_pos_left h hd)))
theorem le_mx (x : Int) : x ≤ mx x := by
  unfold mx
  split
  · exact Int.le_of_lt (by assumption)
  · exact Int.le_refl _
theorem neg_le_mx (x : Int) : -x ≤ mx x := by
  unfold mx
  split
  · exact Int.le_refl _
  · exact Int.not_lt.mp (by assumption)
/-- what the places miss by turns to both sides, one of them more than the four: the four's due is greater -/
theorem due_gt {R : Int → Int} {M a b c d : Int} (ab : a < b) (bc : b < c) (cd : c < d)
    (h : (M ≤ R a ∧ M ≤ -R b ∧ M ≤ R c ∧ M ≤ -R d ∧ (M < R a ∨ M < -R b ∨ M < R c ∨ M < -R d)) ∨ (M ≤ -R a ∧ M ≤ R b ∧ M ≤ -R c ∧ M ≤ R d ∧ (M < -R a ∨ M < R b ∨ M < -R c ∨ M < R d))) : M * partsV a b c d < mx (dueV R a b c d) := by
  have pa := pos3 (sub_pos' bc) (sub_pos' (Int.lt_trans bc cd)) (sub_pos' cd)
  have pb := pos3 (sub_pos' (Int.lt_trans ab bc)) (sub_pos' (Int.lt_trans (Int.lt_trans ab bc) cd)) (sub_pos' cd)
  have pc := pos3 (sub_pos' ab) (sub_pos' (Int.lt_trans (Int.lt_trans ab bc) cd)) (sub_pos' (Int.lt_trans bc cd))
  have pd := pos3 (sub_pos' ab) (sub_pos' (Int.lt_trans ab bc)) (sub_pos' bc)
  unfold partsV dueV
  generalize (c - b) * (d - b) * (d - c) = pa at *
  generalize (c - a) * (d - a) * (d - c) = pb at *
  generalize (b - a) * (d - a) * (d - b) = pc at *
  generalize (b - a) * (c - a) * (c - b) = pd at *
  generalize R a = ra at *
  generalize R b = rb at *
  generalize R c = rc at *
  generalize R d = rd at *
  rcases h with ⟨h1, h2, h3, h4, h5⟩ | ⟨h1, h2, h3, h4, h5⟩
  · have := exch_core pa pb pc pd h1 h2 h3 h4 h5
    rw [Int.mul_neg, Int.mul_neg] at this
    exact Int.lt_of_lt_of_le this (le_mx _)
  · have := exch_core pa pb pc pd h1 h2 h3 h4 h5
    rw [Int.mul_neg, Int.mul_neg] at this
    refine Int.lt_of_lt_of_le this (Int.le_trans (Int.le_of_eq ?_) (neg_le_mx _))
    clear this h1 h2 h3 h4 h5 pa pb pc pd
    omega
theorem mx_mul {s x : Int} (h : 0 < s) : mx (s * x) = s * mx x := by
  unfold mx
  by_cases g : -x > x
  · rw [if_pos g, if_pos (by have := Int.mul_lt_mul_of_pos_left g h; rw [Int.mul_neg] at this; exact this), Int.mul_neg]
  · rw [if_neg g, if_neg (by have := Int.mul_le_mul_of_nonneg_left (Int.not_lt.mp g) (Int.le_of_lt h); rw [Int.mul_neg] at this; omega)]
theorem partsV_pos {i j k l : Int} (ij : i < j) (jk : j < k) (kl : k < l) : 0 < partsV i j k l := by
  have pa := pos3 (sub_pos' jk) (sub_pos' (Int.lt_trans jk kl)) (sub_pos' kl)
  have pb := pos3 (sub_pos' (Int.lt_trans ij jk)) (sub_pos' (Int.lt_trans (Int.lt_trans ij jk) kl)) (sub_pos' kl)
  have pc := pos3 (sub_pos' ij) (sub_pos' (Int.lt_trans (Int.lt_trans ij jk) kl)) (sub_pos' (Int.lt_trans jk kl))
  have pd := pos3 (sub_pos' ij) (sub_pos' (Int.lt_trans ij jk)) (sub_pos' jk)
  exact Int.add_pos (Int.add_pos (Int.add_pos pa pb) pc) pd
/-- a four that the misses meet by turns has a greater ratio -/
theorem gt_of {z : Int → Int} {i j k l a b c d : Int} (ij : i < j) (jk : j < k) (kl : k < l) (ab : a < b) (bc : b < c) (cd : c < d) {R : Int → Int} (hR : R = missedV z i j k (askedH z i j k l) (askedW i j k l)) {M : Int} (hM : M = mx (askedS i j k * askedH z i j k l))
    (h : (M ≤ R a ∧ M ≤ -R b ∧ M ≤ R c ∧ M ≤ -R d ∧ (M < R a ∨ M < -R b ∨ M < R c ∨ M < -R d)) ∨ (M ≤ -R a ∧ M ≤ R b ∧ M ≤ -R c ∧ M ≤ R d ∧ (M < -R a ∨ M < R b ∨ M < -R c ∨ M < R d))) : Gt z i j k l a b c d := by
  have hS : 0 < askedS i j k := pos3 (sub_pos' ij) (sub_pos' (Int.lt_trans ij jk)) (sub_pos' jk)
  have hW := partsV_pos ij jk kl
  have h1 := due_gt ab bc cd h
  have hd : dueV R a b c d = askedS i j k * (askedW i j k l * dueV z a b c d) := by rw [hR, due_missed]; unfold askedS; rw [Int.mul_assoc]
  rw [hM, hd, mx_mul hS, mx_mul hS, Int.mul_assoc, asked_parts, mx_mul hW, asked_due] at h1
  have := Int.lt_of_mul_lt_mul_left h1 (Int.le_of_lt hS)
  rw [Int.mul_comm (partsV i j k l)] at this
  exact this
theorem len_filter {α : Type} (f : α → Bool) (x : α) (l : List α) : (List.filter f (x :: l)).length = (f x).toNat + (List.filter f l).length := by
  rw [List.filter_cons]
  cases f x
  · exact (Nat.zero_add _).symm
  · exact Nat.add_comm _ 1
theorem ahead_of {i j k l q : Int} {a b c d : Bool} (h1 : decide (i < q) = a) (h2 : decide (j < q) = b) (h3 : decide (k < q) = c) (h4 : decide (l < q) = d) : aheadN i j k l q = a.toNat + (b.toNat + (c.toNat + (d.toNat + 0))) := by
  unfold aheadN
  rw [len_filter, len_filter, len_filter, len_filter, h1, h2, h3, h4]
  rfl
theorem side_iff {H mo : Int} {n : Nat} : sameSide H mo n = true ↔ (mo > 0 ↔ (if n % 2 = 0 then H else -H) > 0) := by
  unfold sameSide
  rw [beq_iff_eq, decide_eq_decide]
theorem abs_pos {x : Int} (h : 0 ≤ x) : ((x.natAbs : Nat) : Int) = x := Int.natAbs_of_nonneg h
theorem abs_neg {x : Int} (h : x ≤ 0) : ((x.natAbs : Nat) : Int) = -x := Int.ofNat_natAbs_of_nonpos h
theorem sg_same {T mo : Int} (hg : T.natAbs < mo.natAbs) (h : (mo > 0 ∧ 0 ≤ T) ∨ (¬ mo > 0 ∧ T ≤ 0)) : (mx T < mo ∧ mx T = T) ∨ (mx T < -mo ∧ mx T = -T) := by
  have g : ((T.natAbs : Nat) : Int) < ((mo.natAbs : Nat) : Int) := Int.ofNat_lt.mpr hg
  rcases h with ⟨m, t⟩ | ⟨m, t⟩
  · rw [abs_pos t, abs_pos (Int.le_of_lt m)] at g
    exact .inl ⟨(mx_pos t).symm ▸ g, mx_pos t⟩
  · rw [abs_neg t, abs_neg (Int.not_lt.mp m)] at g
    exact .inr ⟨(mx_neg t).symm ▸ g, mx_neg t⟩
theorem sg_diff {T mo : Int} (hg : T.natAbs < mo.natAbs) (h : (mo > 0 ∧ T ≤ 0) ∨ (¬ mo > 0 ∧ 0 ≤ T)) : (mx T < mo ∧ mx T = -T) ∨ (mx T < -mo ∧ mx T = T) := by
  have g : ((T.natAbs : Nat) : Int) < ((mo.natAbs : Nat) : Int) := Int.ofNat_lt.mpr hg
  rcases h with ⟨m, t⟩ | ⟨m, t⟩
  · rw [abs_neg t, abs_pos (Int.le_of_lt m)] at g
    exact .inl ⟨(mx_neg t).symm ▸ g, mx_neg t⟩
  · rw [abs_pos t, abs_neg (Int.not_lt.mp m)] at g
    exact .inr ⟨(mx_pos t).symm ▸ g, mx_pos t⟩
theorem le_nn {M T : Int} (e : M = T) : M ≤ -(-T) := (Int.neg_neg T).symm ▸ Int.le_of_eq e
noncomputable def Alt (M a b c d : Int) : Prop := M ≤ a ∧ M ≤ b ∧ M ≤ c ∧ M ≤ d ∧ (M < a ∨ M < b ∨ M < c ∨ M < d)
theorem alt_1 {M T r : Int} (h : (M < r ∧ M = T) ∨ (M < -r ∧ M = -T)) : Alt M r (-(-T)) T (-(-T)) ∨ Alt M (-r) (-T) (-T) (-T) :=
  h.imp (fun p => ⟨Int.le_of_lt p.1, le_nn p.2, Int.le_of_eq p.2, le_nn p.2, .inl p.1⟩) fun p => ⟨Int.le_of_lt p.1, Int.le_of_eq p.2, Int.le_of_eq p.2, Int.le_of_eq p.2, .inl p.1⟩
theorem alt_2 {M T r : Int} (h : (M < r ∧ M = -T) ∨ (M < -r ∧ M = T)) : Alt M r (-T) (-T) (-T) ∨ Alt M (-r) T (-(-T)) T :=
  h.imp (fun p => ⟨Int.le_of_lt p.1, Int.le_of_eq p.2, Int.le_of_eq p.2, Int.le_of_eq p.2, .inl p.1⟩) fun p => ⟨Int.le_of_lt p.1, Int.le_of_eq p.2, le_nn p.2, Int.le_of_eq p.2, .inl p.1⟩
theorem alt_3 {M T r : Int} (h : (M < r ∧ M = -T) ∨ (M < -r ∧ M = T)) : Alt M T (-r) T (-(-T)) ∨ Alt M (-T) r (-T) (-T) :=
  h.symm.imp (fun p => ⟨Int.le_of_eq p.2, Int.le_of_lt p.1, Int.le_of_eq p.2, le_nn p.2, .inr (.inl p.1)⟩) fun p => ⟨Int.le_of_eq p.2, Int.le_of_lt p.1, Int.le_of_eq p.2, Int.le_of_eq p.2, .inr (.inl p.1)⟩
theorem alt_4 {M T r : Int} (h : (M < r ∧ M = T) ∨ (M < -r ∧ M = -T)) : Alt M T (-(-T)) r (-(-T)) ∨ Alt M (-T) (-T) (-r) (-T) :=
  h.imp (fun p => ⟨Int.le_of_eq p.2, le_nn p.2, Int.le_of_lt p.1, le_nn p.2, .inr (.inr (.inl p.1))⟩) fun p => ⟨Int.le_of_eq p.2, Int.le_of_eq p.2, Int.le_of_lt p.1, Int.le_of_eq p.2, .inr (.inr (.inl p.1))⟩
theorem alt_5 {M T r : Int} (h : (M < r ∧ M = -T) ∨ (M < -r ∧ M = T)) : Alt M T (-(-T)) T (-r) ∨ Alt M (-T) (-T) (-T) r :=
  h.symm.imp (fun p => ⟨Int.le_of_eq p.2, le_nn p.2, Int.le_of_eq p.2, Int.le_of_lt p.1, .inr (.inr (.inr p.1))⟩) fun p => ⟨Int.le_of_eq p.2, Int.le_of_eq p.2, Int.le_of_eq p.2, Int.le_of_lt p.1, .inr (.inr (.inr p.1))⟩
theorem alt_6 {M T r : Int} (h : (M < r ∧ M = T) ∨ (M < -r ∧ M = -T)) : Alt M (-T) (-T) (-T) (-r) ∨ Alt M (-(-T)) T (-(-T)) r :=
  h.symm.imp (fun p => ⟨Int.le_of_eq p.2, Int.le_of_eq p.2, Int.le_of_eq p.2, Int.le_of_lt p.1, .inr (.inr (.inr p.1))⟩) fun p => ⟨le_nn p.2, Int.le_of_eq p.2, le_nn p.2, Int.le_of_lt p.1, .inr (.inr (.inr p.1))⟩
theorem next_ok (z : Int → Int) {i j k l q mo : Int} (i0 : 0 ≤ i) (ij : i < j) (jk : j < k) (kl : k < l) (l6 : l < 6) (q0 : 0 ≤ q) (q6 : q < 6) (hq : ¬ (q = i ∨ q = j ∨ q = k ∨ q = l))
    (hm : mo = missedV z i j k (askedH z i j k l) (askedW i j k l) q) (hg : (askedS i j k * askedH z i j k l).natAbs < mo.natAbs) : Next z i j k l (nextF [i, j, k, l] q (askedH z i j k l) mo (aheadN i j k l q)) := by
  have hS : 0 < askedS i j k := pos3 (sub_pos' ij) (sub_pos' (Int.lt_trans ij jk)) (sub_pos' jk)
  have g := fun {a b c d : Int} (ab : a < b) (bc : b < c) (cd : c < d) => gt_of (z := z) ij jk kl ab bc cd rfl rfl
  have ri := miss_i z i j k (askedH z i j k l) (askedW i j k l)
  have rj := miss_j z i j k (askedH z i j k l) (askedW i j k l)
  have rk := miss_k z i j k (askedH z i j k l) (askedW i j k l)
  have rl := miss_l z i j k l
  have hp : 0 < askedH z i j k l ↔ 0 < askedS i j k * askedH z i j k l := ⟨fun h => Int.mul_pos hS h, fun h => Int.lt_of_mul_lt_mul_left (a := askedS i j k) (by rw [Int.mul_zero]; exact h) (Int.le_of_lt hS)⟩
  have hn : askedH z i j k l < 0 ↔ askedS i j k * askedH z i j k l < 0 := ⟨fun h => Int.mul_neg_of_pos_of_neg hS h, fun h => Int.lt_of_mul_lt_mul_left (a := askedS i j k) (by rw [Int.mul_zero]; exact h) (Int.le_of_lt hS)⟩
  generalize askedS i j k * askedH z i j k l = T at *
  generalize askedH z i j k l = H at *
  -- with the one neighbour, or with the other
  have hn' : -H > 0 ↔ T < 0 := Int.neg_pos.trans hn
  have s0 : ∀ n, n % 2 = 0 → sameSide H mo n = true → (mo > 0 ∧ 0 ≤ T) ∨ (¬ mo > 0 ∧ T ≤ 0) := fun n h0 h => by
    rw [side_iff, if_pos h0] at h
    exact (Decidable.em (mo > 0)).imp (fun m => ⟨m, Int.le_of_lt (hp.mp (h.mp m))⟩) fun m => ⟨m, Int.not_lt.mp fun t => m (h.mpr (hp.mpr t))⟩
  have d0 : ∀ n, n % 2 = 0 → ¬ sameSide H mo n = true → (mo > 0 ∧ T ≤ 0) ∨ (¬ mo > 0 ∧ 0 ≤ T) := fun n h0 h => by
    rw [side_iff, if_pos h0] at h
    exact (Decidable.em (mo > 0)).imp (fun m => ⟨m, Int.not_lt.mp fun t => h ⟨fun _ => hp.mpr t, fun _ => m⟩⟩) fun m => ⟨m, Int.le_of_lt (hp.mp (Decidable.byContradiction fun nh => h ⟨fun q => absurd q m, fun q => absurd q nh⟩))⟩
  have s1 : ∀ n, ¬ n % 2 = 0 → sameSide H mo n = true → (mo > 0 ∧ T ≤ 0) ∨ (¬ mo > 0 ∧ 0 ≤ T) := fun n h0 h => by
    rw [side_iff, if_neg h0] at h
    exact (Decidable.em (mo > 0)).imp (fun m => ⟨m, Int.le_of_lt (hn'.mp (h.mp m))⟩) fun m => ⟨m, Int.not_lt.mp fun t => m (h.mpr (hn'.mpr t))⟩
  have d1 : ∀ n, ¬ n % 2 = 0 → ¬ sameSide H mo n = true → (mo > 0 ∧ 0 ≤ T) ∨ (¬ mo > 0 ∧ T ≤ 0) := fun n h0 h => by
    rw [side_iff, if_neg h0] at h
    exact (Decidable.em (mo > 0)).imp (fun m => ⟨m, Int.not_lt.mp fun t => h ⟨fun _ => hn'.mpr t, fun _ => m⟩⟩) fun m => ⟨m, Int.le_of_lt (hn'.mp (Decidable.byContradiction fun nh => h ⟨fun q => absurd q m, fun q => absurd q nh⟩))⟩
  clear hp hn hS hn'
  have iq : ¬ q < i → i < q := fun h => (Int.lt_or_gt_of_ne fun e => hq (.inl e)).resolve_left h
  have jq : ¬ q < j → j < q := fun h => (Int.lt_or_gt_of_ne fun e => hq (.inr (.inl e))).resolve_left h
  have kq : ¬ q < k → k < q := fun h => (Int.lt_or_gt_of_ne fun e => hq (.inr (.inr (.inl e)))).resolve_left h
  have lq : ¬ q < l → l < q := fun h => (Int.lt_or_gt_of_ne fun e => hq (.inr (.inr (.inr e)))).resolve_left h
  have no : ∀ {a b : Int}, a < b → decide (b < a) = false := fun h => decide_eq_false (Int.not_lt.mpr (Int.le_of_lt h))
  have yes : ∀ {a b : Int}, a < b → decide (a < b) = true := fun h => decide_eq_true h
  have tr : ∀ {a b c : Int}, a < b → b < c → a < c := Int.lt_trans
  have k6 : k < 6 := tr kl l6
  have j0 : 0 ≤ j := Int.le_trans i0 (Int.le_of_lt ij)
  by_cases h1 : q < i
  · rw [ahead_of (no h1) (no (tr h1 ij)) (no (tr h1 (tr ij jk))) (no (tr h1 (tr ij (tr jk kl))))]
    show Next z i j k l (if sameSide H mo 0 = true then [q, j, k, l] else [q, i, j, k])
    split
    · exact ⟨q, j, k, l, rfl, q0, tr h1 ij, jk, kl, l6, g (tr h1 ij) jk kl (by rw [← hm, rj, rk, rl]; exact alt_1 (sg_same hg (s0 0 (by decide) (by assumption))))⟩
    · exact ⟨q, i, j, k, rfl, q0, h1, ij, jk, k6, g h1 ij jk (by rw [← hm, ri, rj, rk]; exact alt_2 (sg_diff hg (d0 0 (by decide) (by assumption))))⟩
  replace iq := iq h1
  by_cases h2 : q < j
  · rw [ahead_of (yes iq) (no h2) (no (tr h2 jk)) (no (tr h2 (tr jk kl)))]
    show Next z i j k l (if sameSide H mo 0 = true then [q, j, k, l] else [i, q, k, l])
    split
    · exact ⟨q, j, k, l, rfl, q0, h2, jk, kl, l6, g h2 jk kl (by rw [← hm, rj, rk, rl]; exact alt_1 (sg_same hg (s0 0 (by decide) (by assumption))))⟩
    · exact ⟨i, q, k, l, rfl, i0, iq, tr h2 jk, kl, l6, g iq (tr h2 jk) kl (by rw [← hm, ri, rk, rl]; exact alt_3 (sg_diff hg (d0 0 (by decide) (by assumption))))⟩
  replace jq := jq h2
  by_cases h3 : q < k
  · rw [ahead_of (yes iq) (yes jq) (no h3) (no (tr h3 kl))]
    show Next z i j k l (if sameSide H mo 1 = true then [i, q, k, l] else [i, j, q, l])
    split
    · exact ⟨i, q, k, l, rfl, i0, iq, h3, kl, l6, g iq h3 kl (by rw [← hm, ri, rk, rl]; exact alt_3 (sg_diff hg (s1 1 (by decide) (by assumption))))⟩
    · exact ⟨i, j, q, l, rfl, i0, ij, jq, tr h3 kl, l6, g ij jq (tr h3 kl) (by rw [← hm, ri, rj, rl]; exact alt_4 (sg_same hg (d1 1 (by decide) (by assumption))))⟩
  replace kq := kq h3
  by_cases h4 : q < l
  · rw [ahead_of (yes iq) (yes jq) (yes kq) (no h4)]
    show Next z i j k l (if sameSide H mo 2 = true then [i, j, q, l] else [i, j, k, q])
    split
    · exact ⟨i, j, q, l, rfl, i0, ij, jq, h4, l6, g ij jq h4 (by rw [← hm, ri, rj, rl]; exact alt_4 (sg_same hg (s0 2 (by decide) (by assumption))))⟩
    · exact ⟨i, j, k, q, rfl, i0, ij, jk, kq, q6, g ij jk kq (by rw [← hm, ri, rj, rk]; exact alt_5 (sg_diff hg (d0 2 (by decide) (by assumption))))⟩
  · rw [ahead_of (yes iq) (yes jq) (yes kq) (yes (lq h4))]
    show Next z i j k l (if sameSide H mo 3 = true then [i, j, k, q] else [j, k, l, q])
    split
    · exact ⟨i, j, k, q, rfl, i0, ij, jk, kq, q6, g ij jk kq (by rw [← hm, ri, rj, rk]; exact alt_5 (sg_diff hg (s1 3 (by decide) (by assumption))))⟩
    · exact ⟨j, k, l, q, rfl, j0, jk, kl, lq h4, q6, g jk kl (lq h4) (by rw [← hm, rj, rk, rl]; exact alt_6 (sg_same hg (d1 3 (by decide) (by assumption))))⟩
end Mine

end
section
open PySem PySem.W
namespace Mine
/-- the look over the places: none misses more than the four, or one that misses more is found -/
theorem pk_inv (z : Int → Int) (i j k l : Int) : ∀ n,
    ((pk z i j k l n).2 = -1 ∧ (pk z i j k l n).1 = askedS i j k * askedH z i j k l ∧ ∀ p : Int, 0 ≤ p → p < n → ¬ (p = i ∨ p = j ∨ p = k ∨ p = l) → (missedV z i j k (askedH z i j k l) (askedW i j k l) p).natAbs ≤ (askedS i j k * askedH z i j k l).natAbs) ∨
    (∃ q : Int, 0 ≤ q ∧ q < n ∧ (pk z i j k l n).2 = q ∧ ¬ (q = i ∨ q = j ∨ q = k ∨ q = l) ∧ (pk z i j k l n).1 = missedV z i j k (askedH z i j k l) (askedW i j k l) q ∧ (askedS i j k * askedH z i j k l).natAbs < (pk z i j k l n).1.natAbs)
  | 0 => .inl ⟨rfl, rfl, fun p h0 h1 => by omega⟩
  | n + 1 => by
    have ih := pk_inv z i j k l n
    by_cases h : (n : Int) = i ∨ (n : Int) = j ∨ (n : Int) = k ∨ (n : Int) = l
    · rw [pk_in h]
      rcases ih with ⟨a, b, c⟩ | ⟨q, a, b, c, d, e, f⟩
      · refine .inl ⟨a, b, fun p h0 h1 hp => c p h0 ?_ hp⟩
        rcases Int.lt_or_eq_of_le (show p ≤ n by omega) with g | rfl
        · exact g
        · exact absurd h hp
      · exact .inr ⟨q, a, by omega, c, d, e, f⟩
    · by_cases g : (pk z i j k l n).1.natAbs < (missedV z i j k (askedH z i j k l) (askedW i j k l) n).natAbs
      · rw [pk_gt h g]
        refine .inr ⟨n, by omega, by omega, rfl, h, rfl, ?_⟩
        rcases ih with ⟨a, b, c⟩ | ⟨q, a, b, c, d, e, f⟩
        · rw [b] at g; exact g
        · exact Nat.lt_trans f g
      · rw [pk_le h g]
        rcases ih with ⟨a, b, c⟩ | ⟨q, a, b, c, d, e, f⟩
        · refine .inl ⟨a, b, fun p h0 h1 hp => ?_⟩
          rcases Int.lt_or_eq_of_le (show p ≤ n by omega) with g' | rfl
          · exact c p h0 g' hp
          · rw [b] at g; omega
        · exact .inr ⟨q, a, by omega, c, d, e, f⟩
/-- nothing misses more than the four -/
noncomputable def AtRest (z : Int → Int) (i j k l : Int) : Prop := ∀ a b c d : Int, 0 ≤ a → a < b → b < c → c < d → d < 6 → Le z i j k l a b c d
theorem pk_rest (z : Int → Int) {i j k l : Int} (i0 : 0 ≤ i) (ij : i < j) (jk : j < k) (kl : k < l) (l6 : l < 6) (h : (pk z i j k l 6).2 < 0) : AtRest z i j k l := by
  intro a b c d h0 h1 h2 h3 h4
  rcases pk_inv z i j k l 6 with ⟨_, _, c'⟩ | ⟨q, a', _, c', _⟩
  · exact rest_le z i0 ij jk kl l6 (fun p p0 p6 hp => c' p p0 (by omega) hp) h0 h1 h2 h3 h4
  · omega
theorem pk_next (z : Int → Int) {i j k l : Int} (i0 : 0 ≤ i) (ij : i < j) (jk : j < k) (kl : k < l) (l6 : l < 6) (h : ¬ (pk z i j k l 6).2 < 0) :
    Next z i j k l (nextF [i, j, k, l] (pk z i j k l 6).2 (askedH z i j k l) (pk z i j k l 6).1 (aheadN i j k l (pk z i j k l 6).2)) := by
  rcases pk_inv z i j k l 6 with ⟨a, _, _⟩ | ⟨q, a, b, c, d, e, f⟩
  · omega
  · rw [c]
    exact next_ok z i0 ij jk kl l6 a (by omega) d e f
theorem parts_pos {i j k l : Int} (ij : i < j) (jk : j < k) (kl : k < l) : 0 < partsV i j k l := by
  unfold partsV
  have e1 := pos3 (by omega : 0 < k - j) (by omega : 0 < l - j) (by omega : 0 < l - k)
  have e2 := pos3 (by omega : 0 < k - i) (by omega : 0 < l - i) (by omega : 0 < l - k)
  have e3 := pos3 (by omega : 0 < j - i) (by omega : 0 < l - i) (by omega : 0 < l - j)
  have e4 := pos3 (by omega : 0 < j - i) (by omega : 0 < k - i) (by omega : 0 < k - j)
  omega
theorem ratio_trans {a b c p q r : Int} (hp : 0 < p) (hq : 0 < q) (hr : 0 < r) (h1 : a * q < b * p) (h2 : b * r < c * q) : a * r < c * p := by
  have e1 : a * q * r < b * p * r := Int.mul_lt_mul_of_pos_right h1 hr
  have e2 : b * r * p < c * q * p := Int.mul_lt_mul_of_pos_right h2 hp
  have e3 : b * p * r = b * r * p := by rw [Int.mul_assoc, Int.mul_comm p r, ← Int.mul_assoc]
  have e4 : a * q * r = a * r * q := by rw [Int.mul_assoc, Int.mul_comm q r, ← Int.mul_assoc]
  have e5 : c * q * p = c * p * q := by rw [Int.mul_assoc, Int.mul_comm q p, ← Int.mul_assoc]
  exact Int.lt_of_mul_lt_mul_right (a := q) (by omega) (Int.le_of_lt hq)
noncomputable def fours : List (Int × Int × Int × Int) := [(0,1,2,3),(0,1,2,4),(0,1,2,5),(0,1,3,4),(0,1,3,5),(0,1,4,5),(0,2,3,4),(0,2,3,5),(0,2,4,5),(0,3,4,5),(1,2,3,4),(1,2,3,5),(1,2,4,5),(1,3,4,5),(2,3,4,5)]
theorem fours_ord : ∀ f ∈ fours, f.1 < f.2.1 ∧ f.2.1 < f.2.2.1 ∧ f.2.2.1 < f.2.2.2 := by decide
theorem fours_mem {i j k l : Int} (i0 : 0 ≤ i) (ij : i < j) (jk : j < k) (kl : k < l) (l6 : l < 6) : (i, j, k, l) ∈ fours := by
  have j0 := Int.lt_trans (Int.lt_of_le_of_lt i0 ij) jk
  have k0 := Int.lt_trans j0 kl
  obtain ⟨a, rfl⟩ := Int.eq_ofNat_of_zero_le i0
  obtain ⟨b, rfl⟩ := Int.eq_ofNat_of_zero_le (Int.le_of_lt (Int.lt_of_le_of_lt i0 ij))
  obtain ⟨c, rfl⟩ := Int.eq_ofNat_of_zero_le (Int.le_of_lt j0)
  obtain ⟨d, rfl⟩ := Int.eq_ofNat_of_zero_le (Int.le_of_lt k0)
  have ab := Int.ofNat_lt.mp ij
  have bc := Int.ofNat_lt.mp jk
  have cd := Int.ofNat_lt.mp kl
  have d6 := Int.ofNat_lt.mp l6
  have c6 := Nat.lt_trans cd d6
  have b6 := Nat.lt_trans bc c6
  exact (by decide +kernel : ∀ a b c d : Fin 6, a.1 < b.1 → b.1 < c.1 → c.1 < d.1 → (((a.1 : Nat) : Int), ((b.1 : Nat) : Int), ((c.1 : Nat) : Int), ((d.1 : Nat) : Int)) ∈ fours) ⟨a, Nat.lt_trans ab b6⟩ ⟨b, b6⟩ ⟨c, c6⟩ ⟨d, d6⟩ ab bc cd
/-- how many fours have a greater ratio -/
noncomputable def rank (z : Int → Int) (i j k l : Int) : Nat := fours.countP (fun f => decide (Gt z i j k l f.1 f.2.1 f.2.2.1 f.2.2.2))
theorem countP_lt {α : Type} {p q : α → Bool} : ∀ {l : List α} {y : α}, (∀ x ∈ l, p x = true → q x = true) → y ∈ l → p y = false → q y = true → l.countP p < l.countP q
  | x :: l, y, h, hy, hp, hq => by
    have hle : l.countP p ≤ l.countP q := List.countP_mono_left fun x hx => h x (.tail _ hx)
    rcases List.mem_cons.mp hy with rfl | hy
    · rw [List.countP_cons, List.countP_cons, hp, hq]
      simp; omega
    · have ih := countP_lt (fun x hx => h x (.tail _ hx)) hy hp hq
      rw [List.countP_cons, List.countP_cons]
      by_cases e : p x = true
      · rw [e, h x (.head _) e]; simp; omega
      · rw [Bool.eq_false_iff.mpr e]; simp; omega
theorem gt_irrefl (z : Int → Int) (i j k l : Int) : ¬ Gt z i j k l i j k l := by unfold Gt; exact Int.lt_irrefl _
theorem rank_lt (z : Int → Int) {i j k l a b c d : Int} (i0 : 0 ≤ i) (ij : i < j) (jk : j < k) (kl : k < l) (l6 : l < 6) (h0 : 0 ≤ a) (h1 : a < b) (h2 : b < c) (h3 : c < d) (h4 : d < 6) (h : Gt z i j k l a b c d) : rank z a b c d < rank z i j k l := by
  refine countP_lt (y := (a, b, c, d)) (fun f hf hp => ?_) (fours_mem h0 h1 h2 h3 h4) (decide_eq_false (gt_irrefl z a b c d)) (decide_eq_true h)
  obtain ⟨o1, o2, o3⟩ := fours_ord f hf
  have hp' := of_decide_eq_true hp
  refine decide_eq_true ?_
  unfold Gt at h hp' ⊢
  exact ratio_trans (parts_pos ij jk kl) (parts_pos h1 h2 h3) (parts_pos o1 o2 o3) h hp'
theorem rank_le (z : Int → Int) {i j k l : Int} (i0 : 0 ≤ i) (ij : i < j) (jk : j < k) (kl : k < l) (l6 : l < 6) : rank z i j k l ≤ 14 := by
  have := countP_lt (p := fun f : Int × Int × Int × Int => decide (Gt z i j k l f.1 f.2.1 f.2.2.1 f.2.2.2)) (q := fun _ => true) (l := fours) (y := (i, j, k, l)) (fun _ _ _ => rfl) (fours_mem i0 ij jk kl l6) (decide_eq_false (gt_irrefl z i j k l)) rfl
  have h15 : fours.countP (fun _ => true) = 15 := by decide
  unfold rank
  omega
end Mine

end
section
open PySem PySem.W PyProof.Rows PySem.Calls PySem.Spec
namespace Mine
section
variable {X R : Led} {a b c d e p : Addr × Obj}
theorem permA (h : p ∈ X ++ (a :: b :: c :: d :: R)) : p ∈ c :: (X ++ (a :: b :: d :: R)) := three_in h
theorem permB (h : p ∈ e :: c :: a :: b :: (X ++ (d :: R))) : p ∈ X ++ (a :: b :: c :: d :: e :: R) := by
  rcases List.mem_cons.mp h with rfl | h
  · exact List.mem_append_right _ (.tail _ (.tail _ (.tail _ (.tail _ (.head _)))))
  rcases List.mem_cons.mp h with rfl | h
  · exact List.mem_append_right _ (.tail _ (.tail _ (.head _)))
  rcases List.mem_cons.mp h with rfl | h
  · exact List.mem_append_right _ (.head _)
  rcases List.mem_cons.mp h with rfl | h
  · exact List.mem_append_right _ (.tail _ (.head _))
  rcases List.mem_cons.mp (mid_in h) with rfl | h
  · exact List.mem_append_right _ (.tail _ (.tail _ (.tail _ (.head _))))
  · exact mid_skip (mid_skip (mid_skip (mid_skip (mid_skip h))))
theorem permC (h : p ∈ a :: b :: R) : p ∈ b :: a :: R := mid_in (P := [a]) h
theorem permD (h : p ∈ X ++ (a :: b :: c :: d :: e :: R)) : p ∈ c :: e :: a :: b :: (X ++ (d :: R)) := by
  rcases List.mem_cons.mp (three_in h) with rfl | h
  · exact .head _
  rcases List.mem_cons.mp (mid_in h) with rfl | h
  · exact .tail _ (.tail _ (.head _))
  rcases List.mem_cons.mp (mid_in h) with rfl | h
  · exact .tail _ (.tail _ (.tail _ (.head _)))
  rcases List.mem_cons.mp (two_in h) with rfl | h
  · exact .tail _ (.head _)
  · exact .tail _ (.tail _ (.tail _ (.tail _ h)))
theorem permE (h : p ∈ d :: (X ++ (a :: b :: e :: R))) : p ∈ X ++ (a :: b :: c :: d :: e :: R) := by
  rcases List.mem_cons.mp h with rfl | h
  · exact List.mem_append_right _ (.tail _ (.tail _ (.tail _ (.head _))))
  rcases List.mem_cons.mp (mid_in h) with rfl | h
  · exact List.mem_append_right _ (.head _)
  rcases List.mem_cons.mp (mid_in h) with rfl | h
  · exact List.mem_append_right _ (.tail _ (.head _))
  · exact mid_skip (mid_skip (mid_skip (mid_skip h)))
theorem permF {t : Addr × Obj} (h : p ∈ t :: c :: (X ++ (e :: R))) : p ∈ t :: e :: c :: a :: b :: (X ++ (d :: R)) := by
  rcases List.mem_cons.mp h with rfl | h
  · exact .head _
  rcases List.mem_cons.mp h with rfl | h
  · exact .tail _ (.tail _ (.head _))
  rcases List.mem_cons.mp (mid_in h) with rfl | h
  · exact .tail _ (.head _)
  · exact .tail _ (.tail _ (.tail _ (.tail _ (.tail _ (mid_skip h)))))
theorem permK (h : p ∈ X ++ (a :: b :: R)) : p ∈ a :: b :: (X ++ R) := (List.mem_cons.mp (mid_in h)).elim (fun e => e ▸ .head _) fun h => .tail _ (mid_in h)
theorem permG (h : p ∈ X ++ (d :: R)) : p ∈ X ++ (a :: b :: d :: e :: R) := mid_skip (mid_skip ((List.mem_cons.mp (mid_in h)).elim (fun q => q ▸ mid_out (.head _)) fun h => mid_skip (mid_skip h)))
theorem permI (h : p ∈ X ++ (e :: R)) : p ∈ X ++ (a :: b :: d :: e :: R) := mid_skip (mid_skip (mid_skip h))
theorem permH : e ∈ X ++ (a :: b :: d :: e :: R) := List.mem_append_right _ (.tail _ (.tail _ (.tail _ (.head _))))
theorem permJ (h : p ∈ X ++ R) : p ∈ X ++ (e :: R) := mid_skip h
end
theorem rs_c2 {w : World} {X : Lx} {pos line : Int} {tp tl : Tok} {push : Array Value} {np : Nat} {L : Nat} {oc ol : Obj} {rest : Led} : (L + 1 + 1, oc) ∈ rsLed w X pos line tp tl push np L oc ol rest := lex_sub (.head _)
theorem rs_c1 {w : World} {X : Lx} {pos line : Int} {tp tl : Tok} {push : Array Value} {np : Nat} {L : Nat} {oc ol : Obj} {rest : Led} : (L + 1, ol) ∈ rsLed w X pos line tp tl push np L oc ol rest := lex_sub (.tail _ (.head _))
end Mine

end
section
open PySem PySem.W PyProof.Rows PySem.Calls PySem.Spec
namespace Mine
open LCg
section
variable {prog : Program} {w : World} {A : Around} {E : Value → Shared → Prop} {R : Result → Shared → Prop} {s s₂ : Shared} {h₀ : Heap} {L : Addr} {m : Str → Option Value} {env : Env}
theorem assign3 {env : Env} {a b c : Str} {pa pb pc tp : Pos} {kk : Nat} {T : Addr} {x y z : Value} {m : Str → Option Value} {Q : Unit → Shared → Prop} (hh : A.handled = none) (ht : s.heap.IsTuple T #[x, y, z])
    (ha : env.kindOf a = some .local) (hb : env.kindOf b = some .local) (hc : env.kindOf c = some .local) (hp : (env.scope.kind == .class || (env.scope.kind == .module && env.locals != env.globals)) = false) (hn : s.heap.Ns env.locals m)
    (h : ∀ (h' : Heap) (tk : Nat), h'.Ns env.locals (fun u => if u = c then some z else if u = b then some y else if u = a then some x else m u) → (∀ c o, c ≠ env.locals → s.heap.get? c = some o → h'.get? c = some o) → Q () { s with heap := h', toks := tk }) :
    wpAny (model prog w) A (assign (.Tuple [.Name a pa, .Name b pb, .Name c pc] kk tp) env (.ref T)) Q E s := by
  refine wpAny_assign_Tuple hh ht rfl rfl fun h₁ he₁ => ?_
  have hL : env.locals ≠ s.heap.objs.size := Nat.ne_of_lt hn.lt
  have hn₁ : h₁.Ns env.locals m := hn.at' fun o e => he₁ _ o hL e
  have up₁ : ∀ c o, s.heap.get? c = some o → h₁.get? c = some o := fun c o e => he₁ c o (Nat.ne_of_lt (Heap.lt_size e)) e
  show wpAny _ _ (assignInOrder [assign (.Name a pa) env, assign (.Name b pb) env, assign (.Name c pc) env] [x, y, z]) _ _ _
  refine assignInOrder_cons ?_
  refine wpAny_assign_Name (wpAny_storeName_local ha hn₁ (fun h₂ hn₂ hs₂ => ?_) hp)
  refine assignInOrder_cons ?_
  refine wpAny_assign_Name (wpAny_storeName_local hb hn₂ (fun h₃ hn₃ hs₃ => ?_) hp)
  refine assignInOrder_cons ?_
  refine wpAny_assign_Name (wpAny_storeName_local hc hn₃ (fun h₄ hn₄ hs₄ => ?_) hp)
  refine assignInOrder_nil ?_
  exact h h₄ _ hn₄ fun c o hc e => hs₄.extBut c o hc (hs₃.extBut c o hc (hs₂.extBut c o hc (up₁ c o e)))
noncomputable abbrev tup3 (x y z : Value) : Obj := { cls := .type "tuple", data := .seq #[x, y, z] }
/-- a comprehension over a list of triples -/
theorem list3_run {elt i1 : PySem.Expr} {a b c : Str} {pa pb pc tp pos : Pos} {kk : Nat} {scope : Scope} {cl : List (Str × Addr)} {I ax : Addr} {its : Array Value} {nx : Nat} {led : Led} {Fin : List Value → Led → Prop}
    (hh : A.handled = none) (hkind : scope.kind = .function) (ha : scope.names.lookup a = some .local) (hb : scope.names.lookup b = some .local) (hc : scope.names.lookup c = some .local) (hab : a ≠ b) (hac : a ≠ c) (hbc : b ≠ c) (hsz : its.size ≤ sizeLine)
    (P : Nat → Value → Value → Value → Prop) (JJ : Nat → List Value → Led → Prop) (hin : ∀ i ys news, JJ i ys news → (ax, listOf its nx) ∈ news)
    (src : ∀ i ys news v, JJ i ys news → its[i]? = some v → ∃ T x y z, v = .ref T ∧ (T, tup3 x y z) ∈ news ∧ P i x y z)
    (ev : ∀ i ys news T x y z I oI C oC D m₂ h tk (E' : Value → Shared → Prop), i < its.size → JJ i ys news → its[i]? = some (.ref T) → (T, tup3 x y z) ∈ news → P i x y z → NsObj oC m₂ → m₂ a = some x → m₂ b = some y → m₂ c = some z → Fr h₀ L h m → News h₀ L h ((I, oI) :: (C, oC) :: (D, lst ys) :: news) → Off3 I C D news → ((@Ne Nat I C) ∧ (@Ne Nat I D) ∧ (@Ne Nat C D)) →
      wpAny (model prog w) A (eval elt (compEnvC scope cl C env)) (CompEnd h₀ L m { s₂ with heap := h, toks := tk } I oI C oC D (lst ys) (fun _ => True) (fun y news' => JJ (i + 1) (ys ++ [y]) news')) E' { s₂ with heap := h, toks := tk })
    (hlen : ∀ i ys news, JJ i ys news → ys.length ≤ i)
    (fin : ∀ ys news, JJ its.size ys news → Fin ys news)
    (F : Fr h₀ L s₂.heap m) (N : News h₀ L s₂.heap led) (hI : s₂.heap.IsListIter I ax 0) (offI : ∀ p ∈ led, p.1 ≠ I) (hIL : L ≠ I) (hI₀ : h₀.get? I = none) (hJ : JJ 0 [] led) :
    CompRun prog w A h₀ L m env (.ListComp elt [⟨.Tuple [.Name a pa, .Name b pb, .Name c pc] kk tp, i1, [], 0⟩] scope pos) scope cl Fin s₂ (.ref I) := by
  refine ⟨led, F, N, ?_⟩
  intro C D oC h tk hC F N offC offD ne keep far
  obtain ⟨oI0, hI0, hI1, hI2⟩ := hI
  have hI' : h.IsListIter I ax 0 := ⟨oI0, keep _ _ hI0, hI1, hI2⟩
  obtain ⟨hCI', hDI'⟩ := far _ _ hI0
  have hCL : C ≠ L := (N _ (.head _)).2.1
  have hC₀ := (N _ (.head _)).2.2
  have hDL : D ≠ L := (N _ (.tail _ (.head _))).2.1
  have hD₀ := (N _ (.tail _ (.head _))).2.2
  have hax := hin _ _ _ hJ
  have hne : ax ≠ I := offI (ax, listOf its nx) hax
  suffices loop : codeAny (model prog w) A (.compLoop (.ListComp elt [⟨.Tuple [.Name a pa, .Name b pb, .Name c pc] kk tp, i1, [], 0⟩] scope pos) 0 (.ref I) (.ref D) (compEnvC scope cl C env)) _ { s₂ with heap := h, toks := tk } from
    codeAny_compStart_list loop (wpAny_pyIter_listiter hI' loop)
  have hp : ((compEnvC scope cl C env).scope.kind == .class || ((compEnvC scope cl C env).scope.kind == .module && (compEnvC scope cl C env).locals != (compEnvC scope cl C env).globals)) = false := by simp [compEnvC, relabel, hkind]
  have W := Walks.list (prog := prog) (w := w) hh I ax hne its
  refine kcp_loop (fun k s' => ∃ h tk i oC m₁ ys news, s' = { s₂ with heap := h, toks := tk } ∧ i ≤ its.size ∧ k = its.size + 1 - i ∧ h.IsListIter I ax i ∧ Fr h₀ L h m ∧ NsObj oC m₁ ∧ News h₀ L h ((C, oC) :: (D, lst ys) :: news) ∧ Off3 I C D news ∧ JJ i ys news) ?_ (its.size + 1)
    ⟨h, tk, 0, oC, _, [], led, rfl, Nat.zero_le _, rfl, hI', F, hC, N, Off3.of fun p hp => ⟨offI p hp, offC p hp, offD p hp⟩, hJ⟩
  clear hI' F hC N hJ hI0 hI1 hI2 offI offC offD keep far hax
  rintro k s' ⟨h, tk, i, oC, m₁, ys, news, rfl, hi, rfl, st, F, hC, N, off, hJ⟩
  have offm := off.mem
  have hlist : h.IsList ax its := News.isList (fun p hp => N p (.tail _ (.tail _ hp))) (hin _ _ _ hJ)
  by_cases hlt : i < its.size
  · refine W.item i _ _ _ hlt ⟨st, hlist⟩ fun v h₁ tk₁ hv st₁ hk₁ => ?_
    obtain ⟨T, x, y, z, rfl, hT, hPxyz⟩ := src i ys news v hJ hv
    dsimp only
    have N₁ : News h₀ L h₁ ((C, oC) :: (D, lst ys) :: news) := news_but N hk₁ fun p hp => by
      rcases List.mem_cons.mp hp with rfl | hp
      · exact Ne.symm hCI'
      · rcases List.mem_cons.mp hp with rfl | hp
        · exact Ne.symm hDI'
        · exact (offm p hp).1
    refine wpAny_letOwnedTupleGo_listiter st₁.1 ?_
    refine assign3 (env := compEnvC scope cl C env) hh (⟨_, (N₁ _ (.tail _ (.tail _ hT))).1, rfl, _, rfl⟩) (lookup_relabel_local ha) (lookup_relabel_local hb) (lookup_relabel_local hc) hp (hC.ns (N₁ _ (.head _)).1) fun h₂ tk₂ hn₂ hs₂ => ?_
    obtain ⟨oI, heI, hoI⟩ : ∃ oI : Obj, h₂.get? I = some oI ∧ ∀ h : Heap, h.get? I = some oI → h.IsListIter I ax (i + 1) := by
      obtain ⟨o, ho, r1, r2⟩ := st₁.1
      exact ⟨o, hs₂ I o hCI' ho, fun h e => ⟨o, e, r1, r2⟩⟩
    obtain ⟨oC₂, heC, hoC⟩ := ns_obj hn₂
    have F₁ := fr_but F hk₁ hIL hI₀
    have F₂ : Fr h₀ L h₂ m := ⟨F₁.ns.at' fun o e => hs₂ L o (Ne.symm hCL) e, fun b o e => hs₂ b o (fun q => by rw [q] at e; exact absurd (show h₀.get? C = some o from e) (by rw [hC₀]; exact fun x => nomatch x)) (F₁.keep b o e), F₁.above⟩
    refine wpAny_mono (ev i ys news T x y z I oI C oC₂ D _ h₂ tk₂ _ hlt hJ hv hT hPxyz hoC (by simp [hab, hac]) (by simp [hbc]) (by simp) F₂ (fun p hp => ?_) off ⟨hCI', hDI', ne⟩) (fun y s₅ h₅ => ?_) fun _ _ e => e
    · rcases List.mem_cons.mp hp with rfl | hp
      · exact ⟨heI, Ne.symm hIL, hI₀⟩
      · rcases List.mem_cons.mp hp with rfl | hp
        · exact ⟨heC, hCL, hC₀⟩
        · have z := N₁ p (.tail _ hp)
          refine ⟨hs₂ _ _ ?_ z.1, z.2⟩
          rcases List.mem_cons.mp hp with rfl | hp
          · exact Ne.symm ne
          · exact (offm p hp).2.1
    · obtain ⟨h₃, tk₃, news₃, rfl, F₃, N₃, off₃, _, hJ₃⟩ := h₅
      have off3 := off₃.mem
      have zD := (N₃ (D, lst ys) (.tail _ (.tail _ (.head _)))).1
      refine append_at (hsz := by show ys.toArray.size ≤ sizeLine; rw [List.size_toArray]; exact Nat.le_trans (hlen _ _ _ hJ) (Nat.le_trans hi hsz)) zD fun h₆ hs₆ hD₆ => ?_
      refine ⟨its.size + 1 - (i + 1), Nat.sub_lt_sub_left (Nat.lt_succ_of_lt (by assumption)) (Nat.lt_succ_self i), h₆, tk₃, i + 1, oC₂, _, ys ++ [y], news₃, rfl, hlt, rfl, hoI h₆ (hs₆.extBut _ _ hDI' (N₃ _ (.head _)).1), F₃.change hs₆ hDL hD₀, hoC, fun p hp => ?_, off₃, hJ₃⟩
      rcases List.mem_cons.mp hp with rfl | hp
      · exact ⟨hs₆.extBut _ _ ne (N₃ _ (.tail _ (.head _))).1, hCL, hC₀⟩
      · rcases List.mem_cons.mp hp with rfl | hp
        · exact ⟨hD₆.trans (congrArg some (lst_snoc ys y)), hDL, hD₀⟩
        · have z := N₃ p (.tail _ (.tail _ (.tail _ hp)))
          exact ⟨hs₆.extBut _ _ (off3 p hp).2.2 z.1, z.2⟩
  · obtain rfl : i = its.size := Nat.le_antisymm hi (Nat.not_lt.mp hlt)
    refine W.done _ _ _ ⟨st, hlist⟩ fun h₁ tk₁ hk₁ => ?_
    refine ⟨rfl, h₁, _, oC, m₁, ys, news, rfl, fr_but F hk₁ hIL hI₀, hC, news_but N hk₁ fun p hp => ?_, fun p hp => (offm p hp).2.1, off.one, fin _ _ hJ⟩
    rcases List.mem_cons.mp hp with rfl | hp
    · exact Ne.symm hCI'
    · rcases List.mem_cons.mp hp with rfl | hp
      · exact Ne.symm hDI'
      · exact (offm p hp).1
/-- a comprehension's source, that the walk is to leave -/
noncomputable def SetupH (prog : Program) (w : World) (A : Around) (E : Value → Shared → Prop) (h₀ : Heap) (L : Addr) (m : Str → Option Value) (env : Env) (e : PySem.Expr) (scope : Scope) (cl : List (Str × Addr)) (Fin : Shared → List Value → Led → Prop) (xv : Value) (s₁ : Shared) : Prop :=
  wpAny (model prog w) A (pyIter xv) (fun it s₂ => CompRun prog w A h₀ L m env e scope cl (Fin s₂) s₂ it) E s₁
theorem SetupH.mk {e : PySem.Expr} {scope : Scope} {cl : List (Str × Addr)} {Fin : Shared → List Value → Led → Prop} {xv : Value} {s₁ : Shared} (h : wpAny (model prog w) A (pyIter xv) (fun it s₂ => CompRun prog w A h₀ L m env e scope cl (Fin s₂) s₂ it) E s₁) : SetupH prog w A E h₀ L m env e scope cl Fin xv s₁ := h
theorem ListComp_R {elt target iter : PySem.Expr} {rest : List Comprehension} {scope : Scope} {cl : List (Str × Addr)} {pos : Pos} {Q : Value → Shared → Prop} (F₀ : Fr h₀ L s.heap m := by k_asm)
    (hclos : closureFor scope env = pure cl := by with_unfolding_all rfl) (hcell : ∀ y ∈ scope.names, y.2 ≠ .cell := by decide) (hkind : scope.kind = .function := by rfl)
    (hnames : ∀ y ∈ scope.names, y.2 = .local → scope.names.lookup y.1 = some .local := by decide)
    (h : wpAny (model prog w) A (eval iter env) (SetupH prog w A E h₀ L m env (.ListComp elt (⟨target, iter, [], 0⟩ :: rest) scope pos) scope cl (fun s₂ => FinE h₀ L m s₂ Q)) E s)
    (hs : ∀ x, foldedSetIterable iter env x = pure x := by intro _; rfl) :
    wpAny (model prog w) A (eval (.ListComp elt (⟨target, iter, [], 0⟩ :: rest) scope pos) env) Q E s := comp_setup hclos hcell hkind hnames h hs
theorem Assign_ListComp_R {elt target iter : PySem.Expr} {rest : List Comprehension} {scope : Scope} {cl : List (Str × Addr)} {pos py spos : Pos} {y : Str} {Q : Flow → Shared → Prop} (F₀ : Fr h₀ L s.heap m := by k_asm) (hLe : env.locals = L := by rfl)
    (hsw : swapsWith (.ListComp elt (⟨target, iter, [], 0⟩ :: rest) scope pos) (some (.Name y py)) spos.line env = pure true := by with_unfolding_all rfl)
    (hclos : closureFor scope env = pure cl := by with_unfolding_all rfl) (hcell : ∀ y ∈ scope.names, y.2 ≠ .cell := by decide) (hkind : scope.kind = .function := by rfl)
    (hnames : ∀ y ∈ scope.names, y.2 = .local → scope.names.lookup y.1 = some .local := by decide)
    (hy : env.kindOf y = some .local := by rfl) (hp : (env.scope.kind == .class || (env.scope.kind == .module && env.locals != env.globals)) = false := by rfl)
    (h : wpAny (model prog w) A (eval iter env) (SetupH prog w A E h₀ L m env (.ListComp elt (⟨target, iter, [], 0⟩ :: rest) scope pos) scope cl (fun s₂ => FinA h₀ L m s₂ y Q)) E s)
    (hs : ∀ x, foldedSetIterable iter env x = pure x := by intro _; rfl) :
    wpAny (model prog w) A (exec (.Assign [.Name y py] (.ListComp elt (⟨target, iter, [], 0⟩ :: rest) scope pos) spos) env) Q E s := comp_setupA hLe hsw hclos hcell hkind hnames hy hp h hs
end
end Mine

end
section
open PySem PySem.W PyProof.Rows PySem.Calls PySem.Spec
namespace Mine
noncomputable def lwScope : { x : Scope // x = dScope (st 29) } := ⟨⟨_, _, _, _, _⟩, rfl⟩
noncomputable abbrev lwEnv (L fa : Addr) (cd : Value) : Env := envOfC (Str.ofString "law") lwScope.1 L fa cd
noncomputable def lw0 : { x : Stmt // x = nth (dBody (st 29)) 0 } := ⟨.Assign [.Name _ _] _ _, rfl⟩
noncomputable def lw1 : { x : Stmt // x = nth (dBody (st 29)) 1 } := ⟨.Assign [.Name _ _] _ _, rfl⟩
noncomputable def lw2 : { x : Stmt // x = nth (dBody (st 29)) 2 } := ⟨.Assign [.Name _ _] _ _, rfl⟩
noncomputable def lw3 : { x : Stmt // x = nth (dBody (st 29)) 3 } := ⟨.Assign [.Name _ _] _ _, rfl⟩
noncomputable def lw4 : { x : Stmt // x = nth (dBody (st 29)) 4 } := ⟨.If _ [_] [] _, rfl⟩
noncomputable def lw5 : { x : Stmt // x = nth (dBody (st 29)) 5 } := ⟨.If _ [_] [] _, rfl⟩
noncomputable def lw6 : { x : Stmt // x = nth (dBody (st 29)) 6 } := ⟨.Assign [.Name _ _] _ _, rfl⟩
noncomputable def lw7 : { x : Stmt // x = nth (dBody (st 29)) 7 } := ⟨.Assign [.Name _ _] _ _, rfl⟩
noncomputable def lw8 : { x : Stmt // x = nth (dBody (st 29)) 8 } := ⟨.Assign [.Tuple _ _ _] _ _, rfl⟩
noncomputable def lw9 : { x : Stmt // x = nth (dBody (st 29)) 9 } := ⟨.Return _ _, rfl⟩
/-- the page -/
noncomputable def pageOf (rs : List (Int × Bool × Int)) : List Nat := (rs.map fun r => rowOf r.1 r.2.1 r.2.2.toNat).flatten
/-- what the rows are within -/
noncomputable def RowsOk (rs : List (Int × Bool × Int)) : Prop := rs.length = 6 ∧ ∀ r ∈ rs, r.1.natAbs ≤ 40 ∧ 0 ≤ r.2.2
theorem drRows_ok {zs : List Int} {b : Int} (h : SumsOk b zs) (i j : Nat) : RowsOk (drRows zs i j) := by
  refine ⟨by unfold drRows; rw [List.length_map, List.length_range], fun r hr => ?_⟩
  obtain ⟨k, hk, rfl⟩ := List.mem_map.mp hr
  have hk6 := List.mem_range.mp hk
  obtain ⟨z0, z1⟩ := sums_get h hk6
  unfold drRow
  dsimp only
  have h0 : 0 ≤ Int.fmod (zs.getD k 0) 81 := Int.fmod_nonneg_of_pos _ (by decide)
  have h1 : Int.fmod (zs.getD k 0) 81 < 81 := Int.fmod_lt_of_pos _ (by decide)
  exact ⟨by omega, by omega⟩
theorem rowOf_len {x : Int} (hx : x.natAbs ≤ 40) (o : Bool) (sh : Nat) : (rowOf x o sh).length ≤ 60 := by
  have h1 := sgE_len (x := x) (by omega) o sh
  have h2 := rowF_len sh (sgE x o sh)
  have h3 : ∀ r : List Nat, (r.flatMap fun c => if c = 32 then [92, 32] else [c]).length ≤ 2 * r.length := by
    intro r
    induction r with
    | nil => exact Nat.zero_le _
    | cons c r ih =>
      rw [List.flatMap_cons, List.length_append, List.length_cons]
      split
      · simp only [List.length_cons, List.length_nil]; omega
      · simp only [List.length_cons, List.length_nil]; omega
  unfold rowOf rowG
  rw [List.length_append, List.length_singleton]
  have h4 := h3 (rowF sh (sgE x o sh))
  split
  · rw [List.length_cons, List.length_append, List.length_singleton]; omega
  · split <;> omega
theorem pageOf_len {rs : List (Int × Bool × Int)} (h : RowsOk rs) : (pageOf rs).length ≤ 360 := by
  obtain ⟨h6, hr⟩ := h
  unfold pageOf
  have : ∀ l : List (Int × Bool × Int), (∀ r ∈ l, r.1.natAbs ≤ 40 ∧ 0 ≤ r.2.2) → ((l.map fun r => rowOf r.1 r.2.1 r.2.2.toNat).flatten).length ≤ 60 * l.length := by
    intro l hl
    induction l with
    | nil => exact Nat.zero_le _
    | cons r l ih =>
      rw [List.map_cons, List.flatten_cons, List.length_append, List.length_cons]
      have := ih fun q hq => hl q (.tail _ hq)
      have := rowOf_len (hl r (.head _)).1 r.2.1 r.2.2.toNat
      omega
  have := this rs hr
  omega
end Mine

end
section
open PySem PySem.W PyProof.Rows PySem.Calls PySem.Spec
namespace Mine
/-! what is told of a row's signs -/
theorem hid_ok : ∀ r : Fin 28, r.1 ≠ 0 → inB1 (hidAt r.1) = true ∧ 92 < hidAt r.1 ∧ hidAt r.1 < 1114112 := by decide +kernel
theorem c4_ok : ∀ r : Fin 66, inB1 (c4At r.1) = false ∧ inC4 (c4At r.1) = true ∧ 92 < c4At r.1 ∧ c4At r.1 < 1114112 := by decide +kernel
theorem form_ok : ∀ i : Fin 12, ∀ d : Fin 16, inB1 ((formAt i.1 + d.1 : Nat) : Int) = false ∧ inC4 (formAt i.1 + d.1) = false ∧ 32 < formAt i.1 + d.1 ∧ formAt i.1 + d.1 ≠ 34 ∧ formAt i.1 + d.1 ≠ 92 ∧ formAt i.1 + d.1 < 1114112 := by decide +kernel
theorem low_ok : ∀ d : Fin 16, Txt.lower ⟨#[65 + d.1]⟩ = ⟨#[97 + d.1]⟩ ∧ Txt.lower ⟨#[97 + d.1]⟩ = ⟨#[97 + d.1]⟩ := by decide +kernel
noncomputable def keyI (e : DictEntry) : Int := match e.key with
  | .int k _ => k
  | _ => -1
noncomputable def valS (e : DictEntry) : Str := match e.val with
  | .str s _ => s
  | _ => ⟨#[]⟩
noncomputable def posL : List Nat := [0, 0, 202, 228, 254, 298, 364, 390, 416, 442, 468, 494]
/-- the table has these runs of letters -/
theorem run_ok : ∀ j : Fin 12, 2 ≤ j.1 → (((b3Of (st 3)).drop (posL.getD j.1 0)).take 16).map keyI = (List.range 16).map fun d => ((formAt j.1 + d : Nat) : Int) := by decide +kernel
noncomputable def formsHi : List Int := [119808, 119860, 119912, 120016, 120172, 120224, 120276, 120328, 120380, 120432]
noncomputable def okE (e : DictEntry) : Bool := if keyI e < 119808 then decide (keyI e < 65) || decide (113 ≤ keyI e) else formsHi.all fun f => decide (keyI e < f) || decide (f + 16 ≤ keyI e) || valS e == ⟨#[(97 + (keyI e - f)).toNat]⟩
theorem tab_ok : (b3Of (st 3)).all okE = true := by decide +kernel
theorem b3_mem {e : DictEntry} (h : e ∈ b3Of (st 3)) : ∃ k t s u, e.key = .int k t ∧ e.val = .str s u := by
  have := List.all_eq_true.mp b3_ok e h
  unfold entryOk at this
  split at this
  · rename_i k t s u hk hv; exact ⟨k, t, s, u, hk, hv⟩
  · cases this
theorem b3_find (k : Int) : b3Map k = ((b3Of (st 3)).find? (fun e => Value.isInt k e.key)).map (·.val) := by
  unfold b3Map findBy b3Entries
  rw [List.find?_toArray]
theorem formsHi_mem : ∀ i : Fin 12, 2 ≤ i.1 → ((formAt i.1 : Nat) : Int) ∈ formsHi ∧ 119808 ≤ formAt i.1 := by decide +kernel
theorem form_lo : formAt 0 = 65 ∧ formAt 1 = 97 := by decide +kernel
theorem form_b3 (i d : Nat) (hi : i < 12) (hd : d < 16) : b3Out (formAt i + d) = ⟨#[97 + d]⟩ := by
  unfold b3Out
  rw [b3_find]
  cases hf : (b3Of (st 3)).find? (fun e => Value.isInt ((formAt i + d : Nat) : Int) e.key) with
  | none =>
    show Txt.lower _ = _
    match i, hi with
    | 0, _ => rw [form_lo.1]; exact (low_ok ⟨d, hd⟩).1
    | 1, _ => rw [form_lo.2]; exact (low_ok ⟨d, hd⟩).2
    | i + 2, hi =>
      exfalso
      have hr := congrArg (fun l => l[d]?) (run_ok ⟨i + 2, hi⟩ (Nat.le_add_left 2 i))
      dsimp only at hr
      rw [List.getElem?_map, List.getElem?_map, List.getElem?_range hd] at hr
      cases he : (((b3Of (st 3)).drop (posL.getD (i + 2) 0)).take 16)[d]? with
      | none => rw [he] at hr; cases hr
      | some e =>
        rw [he] at hr
        have hm : e ∈ b3Of (st 3) := List.mem_of_mem_drop (List.mem_of_mem_take (List.mem_of_getElem? he))
        obtain ⟨k, t, s, u, hk, hv⟩ := b3_mem hm
        have hn := List.find?_eq_none.mp hf e hm
        have hke : keyI e = ((formAt (i + 2) + d : Nat) : Int) := Option.some.inj hr
        unfold keyI at hke
        rw [hk] at hke hn
        dsimp only at hke
        subst hke
        exact hn (by simp [Value.isInt])
  | some e =>
    have hm := List.mem_of_find?_eq_some hf
    obtain ⟨k, t, s, u, hk, hv⟩ := b3_mem hm
    have hs := List.find?_some hf
    have hke : keyI e = ((formAt i + d : Nat) : Int) := by
      unfold keyI
      rw [hk] at hs ⊢
      obtain ⟨u, hu⟩ := Value.isInt_shape hs
      injection hu
    have hok := List.all_eq_true.mp tab_ok e hm
    unfold okE at hok
    show (match some e.val with | some (.str s _) => s | _ => Txt.lower ⟨#[formAt i + d]⟩) = _
    rw [hv]
    show s = _
    match i, hi with
    | 0, _ =>
      rw [form_lo.1] at hke
      rw [if_pos (by omega), Bool.or_eq_true, decide_eq_true_eq, decide_eq_true_eq] at hok
      omega
    | 1, _ =>
      rw [form_lo.2] at hke
      rw [if_pos (by omega), Bool.or_eq_true, decide_eq_true_eq, decide_eq_true_eq] at hok
      omega
    | i + 2, hi =>
      obtain ⟨h1, h2⟩ := formsHi_mem ⟨i + 2, hi⟩ (Nat.le_add_left 2 i)
      dsimp only at h1 h2
      rw [if_neg (by omega)] at hok
      have := List.all_eq_true.mp hok _ h1
      rw [Bool.or_eq_true, Bool.or_eq_true, decide_eq_true_eq, decide_eq_true_eq, beq_iff_eq] at this
      rcases this with (h | h) | h
      · omega
      · omega
      · unfold valS at h
        rw [hv] at h
        dsimp only at h
        rw [h, hke, show (97 + (((formAt (i + 2) + d : Nat) : Int) - ((formAt (i + 2) : Nat) : Int))).toNat = 97 + d from by omega]
/-! the fold over a row's signs -/
/-- a sign that the lexer takes as it is -/
noncomputable def Sound (c : Nat) : Prop := c = 32 ∨ (32 < c ∧ c ≠ 34 ∧ c ≠ 92)
noncomputable def SgOk (c : Nat) : Prop := ToldOk c ∧ Sound c
noncomputable def RowIs (o : Bool) (way n : Int) (cs : List Nat) : Prop := (∀ c ∈ cs, SgOk c) ∧ cs.foldl toldStep (0, 1, false) = (n, way, o)
theorem RowIs.snoc {o : Bool} {way n : Int} {cs : List Nat} {c : Nat} {n' way' : Int} {o' : Bool} (h : RowIs o way n cs) (hc : SgOk c) (hs : toldStep (n, way, o) c = (n', way', o')) : RowIs o' way' n' (cs ++ [c]) := by
  refine ⟨fun d hd => ?_, by rw [List.foldl_append, h.2]; exact hs⟩
  rcases List.mem_append.mp hd with hd | hd
  · exact h.1 d hd
  · rw [List.mem_singleton.mp hd]; exact hc
theorem row_a (o : Bool) : RowIs o 1 0 (sgA o) := by
  cases o with
  | false => exact ⟨fun c hc => (nomatch hc), rfl⟩
  | true =>
    refine ⟨fun c hc => ?_, by decide +kernel⟩
    rw [show sgA true = [32] from rfl, List.mem_singleton] at hc
    subst hc
    exact ⟨⟨by decide, .inr (.inl rfl)⟩, .inl rfl⟩
theorem row_b (o : Bool) (sh : Nat) : RowIs o 1 0 (sgB o sh) := by
  unfold sgB
  split
  · exact row_a o
  · rename_i h
    obtain ⟨h1, h2, h3⟩ := hid_ok ⟨sh % 28, Nat.mod_lt _ (by decide)⟩ h
    dsimp only at h1 h2 h3
    exact (row_a o).snoc ⟨⟨h3, .inl h1⟩, .inr ⟨by omega, by omega, by omega⟩⟩ (by unfold toldStep; rw [if_pos h1])
theorem row_c (x : Int) (o : Bool) (sh : Nat) : RowIs o (if x < 0 then -1 else 1) 0 (sgC x o sh) := by
  unfold sgC
  split
  · obtain ⟨h0, h1, h2, h3⟩ := c4_ok ⟨sh % 66, Nat.mod_lt _ (by decide)⟩
    dsimp only at h0 h1 h2 h3
    exact (row_b o sh).snoc ⟨⟨h3, .inr (.inr (.inl h1))⟩, .inr ⟨by omega, by omega, by omega⟩⟩ (by unfold toldStep; rw [if_neg (by rw [h0]; decide), if_neg (by omega), if_pos h1])
  · exact row_b o sh
theorem row_e_aux (o : Bool) (way : Int) (sh : Nat) {cs : List Nat} (h : RowIs o way 0 cs) : ∀ n : Nat, RowIs o way n ((wordOf n).foldl (sgD sh) cs) := by
  intro n
  induction n using Nat.strongRecOn with
  | ind n ih =>
    by_cases h0 : n = 0
    · subst h0; exact h
    · rw [wordOf_pos h0, List.foldl_append]
      have hI := ih (n / 16) (Nat.div_lt_self (Nat.pos_of_ne_zero h0) (by decide))
      generalize (wordOf (n / 16)).foldl (sgD sh) cs = ds at hI
      have hm : n % 16 < 16 := Nat.mod_lt _ (by decide)
      have hb : (UInt8.ofNat (65 + n % 16)).toNat - 65 = n % 16 := by
        rw [UInt8.toNat_ofNat']
        exact (by decide +kernel : ∀ d : Fin 16, (65 + d.1) % 2 ^ 8 - 65 = d.1) ⟨n % 16, hm⟩
      have hi : (sh / 12 + ds.length) % 12 < 12 := Nat.mod_lt _ (by decide)
      show RowIs o way n (sgD sh ds (UInt8.ofNat (65 + n % 16)))
      unfold sgD
      rw [hb]
      obtain ⟨f1, f2, f3, f4, f5, f6⟩ := form_ok ⟨(sh / 12 + ds.length) % 12, hi⟩ ⟨n % 16, hm⟩
      have f7 := form_b3 _ _ hi hm
      dsimp only at f1 f2 f3 f4 f5 f6
      generalize formAt ((sh / 12 + ds.length) % 12) + n % 16 = c at *
      refine hI.snoc ⟨⟨f6, .inr (.inr (.inr ⟨_, f7⟩))⟩, .inr ⟨f3, f4, f5⟩⟩ ?_
      unfold toldStep
      rw [if_neg (by rw [f1]; decide), if_neg (by omega), if_neg (by rw [f2]; decide), f7]
      show (16 * ((n / 16 : Nat) : Int) + ((97 + n % 16 : Nat) : Int) - 97, _, _) = _
      rw [show 16 * ((n / 16 : Nat) : Int) + ((97 + n % 16 : Nat) : Int) - 97 = (n : Int) by omega]
theorem row_e (x : Int) (o : Bool) (sh : Nat) : RowIs o (if x < 0 then -1 else 1) x.natAbs (sgE x o sh) := row_e_aux o _ sh (row_c x o sh) _
theorem way_num (x : Int) : (if x < 0 then (-1 : Int) else 1) * (x.natAbs : Int) = x := by
  split <;> omega
/-! what the lexer reads off a row -/
theorem quot_row (sh : Nat) (r : List Nat) : ∀ (cs tok : List Nat), (∀ c ∈ cs, Sound c) → quotTok tok (rowF sh cs ++ 34 :: r) = (tok ++ cs, r) := by
  unfold rowF
  split
  · intro cs
    induction cs with
    | nil => intro tok _; rw [List.nil_append, quotTok_cons, if_pos rfl, List.append_nil]
    | cons c cs ih =>
      intro tok h
      have hc := h c (.head _)
      unfold Sound at hc
      rw [List.cons_append, quotTok_cons, if_neg (by omega), if_neg (by omega), ih _ fun d hd => h d (.tail _ hd), List.append_assoc]
      rfl
  · intro cs
    induction cs with
    | nil => intro tok _; rw [List.flatMap_nil, List.nil_append, quotTok_cons, if_pos rfl, List.append_nil]
    | cons c cs ih =>
      intro tok h
      rw [List.flatMap_cons]
      show quotTok tok (92 :: c :: (cs.flatMap (fun c => [92, c]) ++ 34 :: r)) = _
      rw [quotTok_cons, if_neg (by decide), if_pos rfl]
      show quotTok (tok ++ [c]) (cs.flatMap (fun c => [92, c]) ++ 34 :: r) = _
      rw [ih _ fun d hd => h d (.tail _ hd), List.append_assoc]
      rfl
theorem plain_a (u : Nat) (hu : isWs u = true) (r : List Nat) : ∀ (cs tok : List Nat), (∀ c ∈ cs, Sound c) → plainTok tok (cs.flatMap (fun c => if c = 32 then [92, 32] else [c]) ++ u :: r) = (tok ++ cs, r) := by
  intro cs
  induction cs with
  | nil => intro tok _; rw [List.flatMap_nil, List.nil_append, plainTok_cons, if_pos hu, List.append_nil]
  | cons c cs ih =>
    intro tok h
    have hc := h c (.head _)
    unfold Sound at hc
    rw [List.flatMap_cons, List.append_assoc]
    have hI := ih (tok ++ [c]) fun d hd => h d (.tail _ hd)
    by_cases h32 : c = 32
    · rw [if_pos h32]
      subst h32
      show plainTok tok (92 :: 32 :: _) = _
      rw [plainTok_cons, if_neg (by decide), if_pos rfl]
      exact hI.trans (by rw [List.append_assoc]; rfl)
    · rw [if_neg h32]
      have hw : isWs c = false := by
        unfold isWs
        rw [beq_eq_false_iff_ne.mpr (show c ≠ 10 by omega), beq_eq_false_iff_ne.mpr (show c ≠ 9 by omega), beq_eq_false_iff_ne.mpr (show c ≠ 13 by omega), beq_eq_false_iff_ne.mpr h32]; rfl
      show plainTok tok (c :: _) = _
      rw [plainTok_cons, if_neg (by rw [hw]; decide), if_neg (by omega)]
      exact hI.trans (by rw [List.append_assoc]; rfl)
theorem plain_b (u : Nat) (hu : isWs u = true) (r : List Nat) : ∀ (cs tok : List Nat), plainTok tok (cs.flatMap (fun c => [92, c]) ++ u :: r) = (tok ++ cs, r) := by
  intro cs
  induction cs with
  | nil => intro tok; rw [List.flatMap_nil, List.nil_append, plainTok_cons, if_pos hu, List.append_nil]
  | cons c cs ih =>
    intro tok
    rw [List.flatMap_cons]
    show plainTok tok (92 :: c :: (cs.flatMap (fun c => [92, c]) ++ u :: r)) = _
    rw [plainTok_cons, if_neg (by decide), if_pos rfl]
    show plainTok (tok ++ [c]) (cs.flatMap (fun c => [92, c]) ++ u :: r) = _
    rw [ih, List.append_assoc]
    rfl
theorem ws_at : ∀ i : Fin 4, isWs (wsAt i.1) = true := by decide
theorem token_plain {l : List Nat} {c : Nat} (h : l.head? = some c) (h1 : isWs c = false) (h2 : c ≠ 34) : token l = plainTok [] l := by
  cases l with
  | nil => cases h
  | cons d r =>
    cases h
    rw [token_cons, if_neg (by rw [h1]; decide), if_neg h2]
/-- a row is read as one token; what stands behind it, or that and the blank that ends it -/
theorem token_row (x : Int) (o : Bool) (sh : Nat) (r : List Nat) : ∃ rem, token (rowOf x o sh ++ r) = (sgE x o sh, rem) ∧ (rem = r ∨ ∃ u, isWs u = true ∧ rem = u :: r) := by
  have hs : ∀ c ∈ sgE x o sh, Sound c := fun c hc => ((row_e x o sh).1 c hc).2
  have hu : isWs (wsAt (sh / 3 % 4)) = true := ws_at ⟨sh / 3 % 4, Nat.mod_lt _ (by decide)⟩
  unfold rowOf rowG
  generalize sgE x o sh = cs at *
  generalize wsAt (sh / 3 % 4) = u at *
  split
  · refine ⟨u :: r, ?_, .inr ⟨u, hu, rfl⟩⟩
    rw [List.append_assoc]
    show token (34 :: (rowF sh cs ++ [34] ++ ([u] ++ r))) = _
    rw [token_cons, if_neg (by decide), if_pos rfl, List.append_assoc]
    exact (quot_row sh (u :: r) cs [] hs).trans (by rw [List.nil_append])
  · rename_i h
    rw [not_or] at h
    refine ⟨r, ?_, .inl rfl⟩
    unfold rowF at h ⊢
    rw [List.append_assoc]
    split
    · rename_i h2
      rw [if_pos h2] at h
      cases cs with
      | nil => exact absurd rfl h.2
      | cons c cs =>
        have hc := hs c (.head _)
        unfold Sound at hc
        refine Eq.trans (token_plain (c := if c = 32 then 92 else c) ?_ ?_ ?_) ((plain_a u hu r (c :: cs) [] hs).trans (by rw [List.nil_append]))
        · rw [List.flatMap_cons]; split <;> rfl
        · split
          · decide
          · unfold isWs
            rw [beq_eq_false_iff_ne.mpr (show c ≠ 10 by omega), beq_eq_false_iff_ne.mpr (show c ≠ 9 by omega), beq_eq_false_iff_ne.mpr (show c ≠ 13 by omega), beq_eq_false_iff_ne.mpr (show c ≠ 32 by omega)]; rfl
        · split
          · decide
          · omega
    · rename_i h2
      rw [if_neg h2] at h
      cases cs with
      | nil => exact absurd rfl h.2
      | cons c cs => exact Eq.trans (token_plain (c := 92) rfl (by decide) (by decide)) ((plain_b u hu r (c :: cs) []).trans (by rw [List.nil_append]))
/-- what is still to be read -/
noncomputable def Behind (rem : List Nat) (l : List Nat) : Prop := rem = l ∨ ∃ u, isWs u = true ∧ rem = u :: l
theorem Behind.token {rem l : List Nat} (h : Behind rem l) : token rem = token l := by
  rcases h with rfl | ⟨u, hu, rfl⟩
  · rfl
  · rw [token_cons, if_pos hu]
theorem token_next {rem r : List Nat} {x : Int} {o : Bool} {sh : Nat} (h : Behind rem (rowOf x o sh ++ r)) : (token rem).1 = sgE x o sh ∧ Behind (token rem).2 r := by
  obtain ⟨rem', h1, h2⟩ := token_row x o sh r
  rw [h.token, h1]
  exact ⟨rfl, h2⟩
theorem token_last {rem : List Nat} (h : Behind rem []) : token rem = ([], []) := by rw [h.token, token_nil]
end Mine

end
section
open PySem PySem.W PyProof.Rows PySem.Calls PySem.Spec
namespace Mine
/-- one of what the law is told: number, whether held out -/
noncomputable def TellAt (T : Led) (y : Value) (r : Int × Bool × Int) : Prop := ∃ (a : Addr) (t : Tok), y = .ref a ∧ (a, ({ cls := .type "tuple", data := .seq #[.int r.1 t, .bool r.2.1] } : Obj)) ∈ T
inductive TellsAre (T : Led) : List Value → List (Int × Bool × Int) → Prop
  | nil : TellsAre T [] []
  | cons {y r ys rs} : TellAt T y r → TellsAre T ys rs → TellsAre T (y :: ys) (r :: rs)
theorem TellAt.mono {T T' : Led} (h : ∀ p ∈ T, p ∈ T') {y r} : TellAt T y r → TellAt T' y r
  | ⟨a, t, e, hm⟩ => ⟨a, t, e, h _ hm⟩
theorem TellsAre.mono {T T' : Led} (h : ∀ p ∈ T, p ∈ T') : ∀ {ys rs}, TellsAre T ys rs → TellsAre T' ys rs
  | _, _, .nil => .nil
  | _, _, .cons a b => .cons (a.mono h) (b.mono h)
theorem TellsAre.snoc {T : Led} {y r} (hy : TellAt T y r) : ∀ {ys rs}, TellsAre T ys rs → TellsAre T (ys ++ [y]) (rs ++ [r])
  | _, _, .nil => .cons hy .nil
  | _, _, .cons a b => .cons a (b.snoc hy)
theorem TellsAre.length {T : Led} : ∀ {ys rs}, TellsAre T ys rs → ys.length = rs.length
  | _, _, .nil => rfl
  | _, _, .cons _ b => congrArg (· + 1) b.length
theorem TellsAre.at {T : Led} : ∀ {ys rs}, TellsAre T ys rs → ∀ (k : Nat) y, ys[k]? = some y → ∃ r, rs[k]? = some r ∧ TellAt T y r
  | _, _, .nil, _, _, e => by cases e
  | _, _, .cons a b, 0, _, e => by cases e; exact ⟨_, rfl, a⟩
  | _, _, .cons a b, k + 1, _, e => b.at k _ e
theorem pageOf_drop {rows : List (Int × Bool × Int)} {i : Nat} {r : Int × Bool × Int} (h : rows[i]? = some r) : pageOf (rows.drop i) = rowOf r.1 r.2.1 r.2.2.toNat ++ pageOf (rows.drop (i + 1)) := by
  obtain ⟨hl, hr⟩ := List.getElem?_eq_some_iff.mp h
  rw [List.drop_eq_getElem_cons hl, hr]
  rfl
theorem token_suffix : ∀ {l : List Nat}, (token l).2 <:+ l := by
  have hp : ∀ n (l tok : List Nat), l.length ≤ n → (plainTok tok l).2 <:+ l := by
    intro n
    induction n with
    | zero => intro l tok h; cases l with
      | nil => rw [plainTok_nil]; exact List.suffix_refl _
      | cons c r => simp at h
    | succ n ih =>
      intro l tok h
      cases l with
      | nil => rw [plainTok_nil]; exact List.suffix_refl _
      | cons c r =>
        rw [plainTok_cons]
        split
        · exact List.suffix_cons c r
        · split
          · exact (ih r.tail _ (by simp only [List.length_tail, List.length_cons] at h ⊢; omega)).trans ((List.tail_suffix r).trans (List.suffix_cons c r))
          · exact (ih r _ (by simp only [List.length_cons] at h; omega)).trans (List.suffix_cons c r)
  have hq : ∀ n (l tok : List Nat), l.length ≤ n → (quotTok tok l).2 <:+ l := by
    intro n
    induction n with
    | zero => intro l tok h; cases l with
      | nil => rw [quotTok_nil]; exact List.suffix_refl _
      | cons c r => simp at h
    | succ n ih =>
      intro l tok h
      cases l with
      | nil => rw [quotTok_nil]; exact List.suffix_refl _
      | cons c r =>
        rw [quotTok_cons]
        split
        · exact List.suffix_cons c r
        · split
          · exact (ih r.tail _ (by simp only [List.length_tail, List.length_cons] at h ⊢; omega)).trans ((List.tail_suffix r).trans (List.suffix_cons c r))
          · exact (ih r _ (by simp only [List.length_cons] at h; omega)).trans (List.suffix_cons c r)
  intro l
  induction l with
  | nil => rw [token_nil]; exact List.suffix_refl _
  | cons c r ih =>
    rw [token_cons]
    split
    · exact ih.trans (List.suffix_cons c r)
    · split
      · exact (hq _ r [] (Nat.le_refl _)).trans (List.suffix_cons c r)
      · exact hp _ (c :: r) [] (Nat.le_refl _)
theorem lw_apart {X : Lx} (hX : X.Ok) {R : Led} (hr : Apart X R) {L : Nat} (hxL : @LT.lt Nat _ (L + 1 + 1) X.cp) {o1 o2 : Obj} : Apart X ((L + 1 + 1, o2) :: (L + 1, o1) :: R) := by
  obtain ⟨_, a, _, _, _, _, b, _, c⟩ := hX.over hxL
  exact (hr.add (q := (L + 1, o1)) (Nat.ne_of_lt (Nat.lt_of_succ_lt a)) (Nat.ne_of_lt (Nat.lt_of_succ_lt b)) (Nat.ne_of_lt (Nat.lt_of_succ_lt c))).add (q := (L + 1 + 1, o2)) (Nat.ne_of_lt a) (Nat.ne_of_lt b) (Nat.ne_of_lt c)
end Mine

end
section
open PySem PySem.W PyProof.Rows PySem.Calls PySem.Spec
namespace Mine
open LCg
theorem cnt_count (c : Nat) : ∀ l : List Nat, cnt c l = (l.count c : Nat)
  | [] => rfl
  | n :: r => by
    rw [cnt_cons, cnt_count c r, List.count_cons]
    by_cases h : n = c
    · rw [if_pos h, if_pos (beq_iff_eq.mpr h)]; omega
    · rw [if_neg h, if_neg (fun e => h (beq_iff_eq.mp e))]; omega
theorem line_end (X : Lx) : X.lineOf [] = Txt.count X.page (Str.ofString "\n") + 1 := by
  rw [show Str.ofString "\n" = (⟨#[10]⟩ : Str) from by decide +kernel, count_is]
  show _ = cnt 10 X.page.cps.toList + 1
  rw [cnt_count]
  unfold Lx.lineOf Lx.cs
  rw [List.length_nil, Nat.sub_zero, List.take_length]
  omega
noncomputable def pdOf (r : Int × Bool × Int) : PyData := .tuple [.int r.1, .bool r.2.1]
theorem pd_reads {h : Heap} {h₀ : Heap} {L : Addr} {news : Led} (N : News h₀ L h news) : ∀ {ys : List Value} {rows : List (Int × Bool × Int)}, TellsAre news ys rows → ∃ as, ReadsAll h ys (rows.map pdOf) as
  | _, _, .nil => ⟨_, .nil⟩
  | _, _, .cons ⟨a, t, e, hm⟩ r => by
    obtain ⟨as, q⟩ := pd_reads N r
    subst e
    exact ⟨_, .cons (reads_tuple_at (N.get hm) rfl rfl (.cons (.int _ t) (.cons (.bool _) .nil))) q⟩
theorem pd_lay : ∀ rows : List (Int × Bool × Int), PyData.canLayAll0 (rows.map pdOf) = true ∧ PyData.depthAll (rows.map pdOf) ≤ 1
  | [] => ⟨rfl, by decide⟩
  | r :: rows => by
    obtain ⟨h1, h2⟩ := pd_lay rows
    rw [List.map_cons]
    simp only [pdOf, PyData.canLayAll0, PyData.canLay0, PyData.depthAll, PyData.depth] at *
    exact ⟨by rw [h1]; rfl, by omega⟩
theorem pd_eqv : ∀ rows : List (Int × Bool × Int), PyData.eqvAll (rows.map pdOf) (rows.map pdOf) = true
  | [] => by simp [PyData.eqvAll]
  | r :: rows => by
    have := pd_eqv rows
    rw [List.map_cons]
    simp [PyData.eqvAll, PyData.eqv, pdOf] at *
    exact this
section
variable {prog : Program} {w : World} {A : Around} {E : Value → Shared → Prop} {s : Shared} {h₀ : Heap} {L a b : Addr} {news : Led} {Q : Value → Shared → Prop}
theorem ne_told {ys zs : List Value} {rows : List (Int × Bool × Int)} (N : News h₀ L s.heap news) (ma : (a, lst ys) ∈ news) (Ta : TellsAre news ys rows) (mb : (b, lst zs) ∈ news) (Tb : TellsAre news zs rows) (hu : A.units + 64 < cLine) (h : Q (.bool false) s) : wpAny (model prog w) A (compareOp .NotEq (.ref a) (.ref b)) Q E s := by
  obtain ⟨as, ra⟩ := pd_reads N Ta
  obtain ⟨bs, rb⟩ := pd_reads N Tb
  obtain ⟨l1, l2⟩ := pd_lay rows
  have hsh : SeqAt.shaped (.list (rows.map pdOf)) = true := by
    unfold SeqAt.shaped
    simp only [PyData.canLay0, PyData.depth, l1, Bool.true_and]
    exact decide_eq_true (by omega)
  refine ne_dataH (reads_list_at (N.get ma) rfl rfl (by simpa using ra)) (reads_list_at (N.get mb) rfl rfl (by simpa using rb)) hsh hsh hu ?_
  have e : PyData.eqv (.list (rows.map pdOf)) (.list (rows.map pdOf)) = true := by simp only [PyData.eqv]; exact pd_eqv rows
  rw [e]
  exact h
end
end Mine

end
section
open PySem PySem.W PyProof.Rows PySem.Calls PySem.Spec
namespace Mine
/-- the places that wait on the lexer's line -/
noncomputable def startL (rows : List (Int × Bool × Int)) (n : Nat) : List Int := ((List.range n).filter fun k => !(rows.getD k (0, false, 0)).2.1).map Int.ofNat
theorem startL_succ (rows : List (Int × Bool × Int)) {i : Nat} {r : Int × Bool × Int} (h : rows[i]? = some r) : startL rows (i + 1) = startL rows i ++ if r.2.1 then [] else [(i : Int)] := by
  unfold startL
  have : rows.getD i (0, false, 0) = r := by rw [List.getD_eq_getElem?_getD, h]; rfl
  rw [List.range_succ, List.filter_append, List.map_append]
  congr 1
  cases hb : r.2.1
  · rw [List.filter_cons_of_pos (by rw [this, hb]; rfl)]; rfl
  · rw [List.filter_cons_of_neg (by rw [this, hb]; decide)]; rfl
section
open LCg LCp
variable {prog : Program} {w : World} {A : Around} {E : Value → Shared → Prop} {s : Shared} {h₀ : Heap} {L : Addr} {m : Str → Option Value} {env : Env}
/-- SrcLP, that the walk is to leave -/
noncomputable def SrcLPH (prog : Program) (w : World) (A : Around) (h₀ : Heap) (L : Addr) (m : Str → Option Value) (env : Env) (elt : PySem.Expr) (x x₂ : Str) (scope : Scope) (cl : List (Str × Addr)) (Fin : Shared → List Value → Led → Prop) (xv : Value) (s₁ : Shared) : Prop := SrcLP prog w A h₀ L m env elt x x₂ scope cl Fin xv s₁
theorem SrcLPH.mk {elt : PySem.Expr} {x x₂ : Str} {scope : Scope} {cl : List (Str × Addr)} {Fin : Shared → List Value → Led → Prop} {xv : Value} {s₁ : Shared} (h : SrcLP prog w A h₀ L m env elt x x₂ scope cl Fin xv s₁) : SrcLPH prog w A h₀ L m env elt x x₂ scope cl Fin xv s₁ := h
theorem Assign_ListComp_PH {elt iter : PySem.Expr} {x x₂ y : Str} {px px₂ tp py : Pos} {tk} {scope : Scope} {cl : List (Str × Addr)} {pos spos : Pos} {Q : Flow → Shared → Prop} (F₀ : Fr h₀ L s.heap m := by k_asm) (hLe : env.locals = L := by rfl)
    (hsw : swapsWith (.ListComp elt [⟨.Tuple [.Name x px, .Name x₂ px₂] tk tp, iter, [], 0⟩] scope pos) (some (.Name y py)) spos.line env = pure true := by with_unfolding_all rfl)
    (hclos : closureFor scope env = pure cl := by with_unfolding_all rfl) (hcell : ∀ z ∈ scope.names, z.2 ≠ .cell := by decide) (hkind : scope.kind = .function := by rfl)
    (hnames : ∀ z ∈ scope.names, z.2 = .local → scope.names.lookup z.1 = some .local := by decide) (hx : scope.names.lookup x = some .local := by rfl) (hx₂ : scope.names.lookup x₂ = some .local := by rfl) (hxx : x ≠ x₂ := by decide)
    (hy : env.kindOf y = some .local := by rfl) (hp : (env.scope.kind == .class || (env.scope.kind == .module && env.locals != env.globals)) = false := by rfl)
    (h : wpAny (model prog w) A (eval iter env) (SrcLPH prog w A h₀ L m env elt x x₂ scope cl (fun s₂ => FinA h₀ L m s₂ y Q)) E s)
    (hs : ∀ x, foldedSetIterable iter env x = pure x := by intro _; rfl) :
    wpAny (model prog w) A (exec (.Assign [.Name y py] (.ListComp elt [⟨.Tuple [.Name x px, .Name x₂ px₂] tk tp, iter, [], 0⟩] scope pos) spos) env) Q E s := Assign_ListComp_P F₀ hLe hsw hclos hcell hkind hnames hx hx₂ hxx hy hp h hs
end
end Mine

end
section
open PySem PySem.W PyProof.Rows PySem.Calls PySem.Spec
namespace Mine
theorem drRows_len (zs : List Int) (i j : Nat) : (drRows zs i j).length = 6 := by unfold drRows; rw [List.length_map, List.length_range]
theorem drRows_at (zs : List Int) (i j : Nat) {k : Nat} (hk : k < 6) : (drRows zs i j)[k]? = some (drRow zs i j k) := by
  unfold drRows
  rw [List.getElem?_map, List.getElem?_range hk]
  rfl
theorem four_ok : ∀ i j : Fin 6, i.1 < j.1 → ∃ a b c d : Fin 6, ((List.range 6).filter fun k => !decide (k = i.1 ∨ k = j.1)) = [a.1, b.1, c.1, d.1] ∧ a.1 < b.1 ∧ b.1 < c.1 ∧ c.1 < d.1 := by decide +kernel
theorem start_four (zs : List Int) {i j : Nat} (hij : i < j) (hj : j < 6) : ∃ a b c d : Int, startL (drRows zs i j) 6 = [a, b, c, d] ∧ 0 ≤ a ∧ a < b ∧ b < c ∧ c < d ∧ d < 6 := by
  obtain ⟨a, b, c, d, h, h1, h2, h3⟩ := four_ok ⟨i, by omega⟩ ⟨j, hj⟩ hij
  refine ⟨(a.1 : Nat), (b.1 : Nat), (c.1 : Nat), (d.1 : Nat), ?_, by omega, by omega, by omega, by omega, by have := d.2; omega⟩
  unfold startL
  rw [show (List.range 6).filter (fun k => !((drRows zs i j).getD k (0, false, 0)).2.1) = (List.range 6).filter (fun k => !decide (k = i ∨ k = j)) from List.filter_congr fun k hk => by
    rw [List.getD_eq_getElem?_getD, drRows_at zs i j (List.mem_range.mp hk)]
    rfl]
  dsimp only at h
  rw [h]
  rfl
theorem nums_bd {rows : List (Int × Bool × Int)} (h : RowsOk rows) (n : Nat) : Bd 6 ((rows.map (·.1)).getD n 0) := by
  rw [List.getD_eq_getElem?_getD, List.getElem?_map]
  cases hr : rows[n]? with
  | none => exact Nat.zero_le _
  | some r =>
    have := (h.2 r (List.mem_of_getElem? hr)).1
    show r.1.natAbs ≤ 2 ^ 6
    omega
theorem rest_le_w {z : Int → Int} {i j k l : Int} (h : AtRest z i j k l) (a b c d : Int) (h0 : 0 ≤ a) (h1 : a < b) (h2 : b < c) (h3 : c < d) (h4 : d < 6) : mx (dueV z a b c d) * askedW i j k l ≤ mx (askedH z i j k l) * partsV a b c d := by
  rw [asked_due, asked_parts]
  exact h a b c d h0 h1 h2 h3 h4
end Mine

end
section
open PySem PySem.W PyProof.Rows PySem.Calls
set_option maxHeartbeats 4000000
namespace Mine
variable {w : World} {p : Program} {loose : List Str} {mean : ExcName → Option Value} {mg mb : Str → Option Value} {news : List (Addr × Obj)}
section
variable {dp un : Nat} {gd : Option (List Code)} {cn : Str} {cs : Scope} {a : Addr} {ccd : Value} {cl : List (Str × Addr)} {outer : List Env} {A₀ : Around} {base g : Heap} {L : Nat} {L₀ : Addr} {s s' : Shared}
theorem rs_out (B : Below A₀ base (envX cn cs L₀ a ccd cl :: outer) g) (XX : (K w.params).In g) (T : Top p loose mean mg mb g) (hd : dp + 12 < recursionLimit) (hu : un + 10 * 12 < cLine)
    {af : Addr} {q H W : Int} {t1 t2 tq : Tok} {p1 p2 p3 : Addr × Obj} {oc : Obj} {O : Led} {h : Heap} {tk : Nat} {m : Str → Option Value} (F : Fr g L h m) (N : News g L h (p1 :: p2 :: (L + 1 + 1, oc) :: p3 :: O)) (c2 : oc.data = .cell (some (.int q tq)))
    (e1 : m (Str.ofString "four") = some (.ref af)) (e2 : m (Str.ofString "height") = some (.int H t1)) (e3 : m (Str.ofString "whole") = some (.int W t2))
    {Q : Flow → Shared → Prop} {E : Value → Shared → Prop}
    (hE : PassesOwn (model Pw w) ((ktrTop dp un gd cn cs L₀ a ccd cl outer).deeper (rsEnv L)) (rsEnv L) E)
    (hR : q < 0 → ∀ t h tk, Fr g L h m → News g L h ((t, { cls := .type "tuple", data := .seq #[.ref af, .int H t1, .int W t2] }) :: p1 :: p2 :: (L + 1 + 1, oc) :: p3 :: O) → Q (.ret (.ref t)) { s with heap := h, toks := tk })
    (hQ : ¬ q < 0 → ∀ tk, Q .next { s with heap := h, toks := tk }) :
    wpAny (model Pw w) ((ktrTop dp un gd cn cs L₀ a ccd cl outer).deeper (rsEnv L)) (exec rb4.1 (rsEnv L)) Q E { s with heap := h, toks := tk } := by
  dsimp only [rsEnv, rsScope, rb4]
  k_steps
  · rename News _ _ _ _ => N9
    rename Fr _ _ _ _ => F9
    exact hR (by assumption) _ _ _ F9 N9
  · exact hQ (by assumption) _
end

end Mine
end
theorem Mine.look38 : True := by first | (walk1; fail) | trivial
section
open PySem PySem.W PyProof.Rows PySem.Calls
set_option maxHeartbeats 4000000
namespace Mine
variable {w : World} {p : Program} {loose : List Str} {mean : ExcName → Option Value} {mg mb : Str → Option Value} {news : List (Addr × Obj)}
local macro_rules | `(tactic| walk_at "eval ListComp") => `(tactic| (k_here; k_dflt (refine ListComp_TH (h := ?_))))
local macro_rules | `(tactic| walk_at "exec Assign cons ListComp") => `(tactic| (k_here; k_dflt (refine Assign_ListComp_TH (h := ?_))))
local macro_rules | `(tactic| walk_at "call builtin:len") => `(tactic| (k_here; k_dflt (refine' len_lst ?_; k_whole)))
section
variable {dp un : Nat} {gd : Option (List Code)} {cn : Str} {cs : Scope} {a : Addr} {ccd : Value} {cl : List (Str × Addr)} {outer : List Env} {A₀ : Around} {base g : Heap} {L : Nat} {L₀ : Addr} {s s' : Shared}
open LCg LCt in
theorem rs_near (B : Below A₀ base (envX cn cs L₀ a ccd cl :: outer) g) (XX : (K w.params).In g) (T : Top p loose mean mg mb g) (hd : dp + 12 < recursionLimit) (hu : un + 10 * 12 < cLine)
    {an af : Addr} {nn nf : Nat} {vs : List Value} {i j k l q : Int} {ta tb tc td tq : Tok}
    {oc ol : Obj} {O : Led} {h : Heap} {tk : Nat} {m : Str → Option Value} (F : Fr g L h m) (N : News g L h ((an, listOf vs.toArray nn) :: (af, listOf #[.int i ta, .int j tb, .int k tc, .int l td] nf) :: (L + 1 + 1, oc) :: (L + 1, ol) :: O)) (c2 : oc.data = .cell (some (.int q tq)))
    (e2 : m (Str.ofString "four") = some (.ref af))
    {Q : Flow → Shared → Prop} {E : Value → Shared → Prop}
    (hE : PassesOwn (model Pw w) ((ktrTop dp un gd cn cs L₀ a ccd cl outer).deeper (rsEnv L)) (rsEnv L) E)
    (hQ : ∀ h tk m' t3 t4, Fr g L h m' → News g L h ((an, listOf vs.toArray nn) :: (af, listOf #[.int i ta, .int j tb, .int k tc, .int l td] nf) :: (L + 1 + 1, oc) :: (L + 1, ol) :: O) →
      (∀ z, z ≠ Str.ofString "ahead" → z ≠ Str.ofString "near" → m' z = m z) → m' (Str.ofString "ahead") = some (.int (aheadN i j k l q : Nat) t3) → m' (Str.ofString "near") = some (.int (nearN (aheadN i j k l q) : Nat) t4) →
      Q .next { s with heap := h, toks := tk }) :
    wpAny (model Pw w) ((ktrTop dp un gd cn cs L₀ a ccd cl outer).deeper (rsEnv L)) (execs [rb5.1, rb6.1] (rsEnv L)) Q E { s with heap := h, toks := tk } := by
  dsimp only [rsEnv, rsScope, rb5, rb6]
  have hi : IntsAre [.int i ta, .int j tb, .int k tc, .int l td] [i, j, k, l] := .cons _ _ (.cons _ _ (.cons _ _ (.cons _ _ .nil)))
  k_steps
  rename News _ _ _ _ => N9
  rename Fr _ _ _ _ => F9
  refine CompSrcTH.mk (CompSrcT.ledger rfl F9 N9 (.tail _ (.head _)) (by show 4 ≤ sizeLine; decide) fun gg => ?_)
  refine comp_goT (n := 4) (fun n ys news' => news' = ((an, listOf vs.toArray nn) :: (af, listOf #[.int i ta, .int j tb, .int k tc, .int l td] nf) :: (L + 1 + 1, oc) :: (L + 1, ol) :: O) ∧ ys.length = (([i, j, k, l].take n).filter (fun x => decide (x < q))).length) ?_ ?_ 4 0 [] _ (by omega) ⟨rfl, rfl⟩
  · rintro n v ys news' I oI C oC D m₂ h' tk' E' hn ⟨rfl, hy⟩ hv hC hx F' N' off ne
    obtain ⟨x, t, rfl, hz⟩ := IntsAre.at hi n v (by rw [← List.getElem?_toArray]; exact hv)
    have hst := ahead_step (p := q) hz
    k_steps
    · refine CompEnd.intro F' N' _ (fun p hp => hp) off (.inr ⟨_, .tail _ (.head _), rfl, _, rfl⟩) ⟨rfl, ?_⟩
      rw [List.length_append, List.length_singleton, hy, hst, if_pos (by assumption)]
    · refine CompEnd.intro F' N' _ (fun p hp => hp) off (.inr ⟨_, .tail _ (.head _), rfl, _, rfl⟩) ⟨rfl, ?_⟩
      rw [hy, hst, if_neg (by assumption), Nat.add_zero]
  · rintro ys news' ⟨rfl, hy⟩ D h' tk' F' N' off
    have hy4 : ys.length = aheadN i j k l q := hy
    have hle := aheadN_le i j k l q
    dsimp only
    k_steps
    · rename News _ _ _ _ => N9
      rename Fr _ _ _ _ => F9
      have hy0 := (by assumption : (ys.length : Int) ≠ 0)
      have hne : ((nearN (aheadN i j k l q) : Nat) : Int) = (ys.length : Int) - 1 := by
        unfold nearN; rw [← hy4, if_neg (fun e => hy0 (congrArg Nat.cast e))]; exact Int.ofNat_sub (Nat.pos_of_ne_zero fun e => hy0 (congrArg Nat.cast e))
      refine hQ _ _ _ _ _ F9 (fun p hp => N9 p (.tail _ hp)) (fun z h1 h2 => ?_) (by rw [← hy4]; with_unfolding_all rfl) (by rw [hne]; with_unfolding_all rfl)
      show (if z = Str.ofString "near" then _ else if z = Str.ofString "ahead" then _ else _) = _
      rw [if_neg h2, if_neg h1]
    · rename News _ _ _ _ => N9
      rename Fr _ _ _ _ => F9
      have hy0 := (by assumption : (ys.length : Int) = 0)
      have hne : ((nearN (aheadN i j k l q) : Nat) : Int) = 0 := by
        unfold nearN; rw [← hy4, if_pos (by omega)]; rfl
      refine hQ _ _ _ _ _ F9 (fun p hp => N9 p (.tail _ hp)) (fun z h1 h2 => ?_) (by rw [← hy4]; with_unfolding_all rfl) (by rw [hne]; with_unfolding_all rfl)
      show (if z = Str.ofString "near" then _ else if z = Str.ofString "ahead" then _ else _) = _
      rw [if_neg h2, if_neg h1]
end

end Mine
end
theorem Mine.look39 : True := by first | (walk1; fail) | trivial
section
open PySem PySem.W PyProof.Rows PySem.Calls
set_option maxHeartbeats 4000000
namespace Mine
variable {w : World} {p : Program} {loose : List Str} {mean : ExcName → Option Value} {mg mb : Str → Option Value} {news : List (Addr × Obj)}
section
variable {dp un : Nat} {gd : Option (List Code)} {cn : Str} {cs : Scope} {a : Addr} {ccd : Value} {cl : List (Str × Addr)} {outer : List Env} {A₀ : Around} {base g : Heap} {L : Nat} {L₀ : Addr} {s s' : Shared}
theorem rs_rounds (B : Below A₀ base (envX cn cs L₀ a ccd cl :: outer) g) (XX : (K w.params).In g) (T : Top p loose mean mg mb g) (hd : dp + 12 < recursionLimit) (hu : un + 10 * 12 < cLine)
    {X : Lx} (hX : X.Ok) {pos line : Int} {tp tl : Tok} {np : Nat} {oc ol : Obj} {R : Led} {an : Addr} {nn : Nat} {vs : List Value} {zs : List Int} (hr : Apart X ((an, listOf vs.toArray nn) :: R)) (low : Low L (lexLed w X pos line tp tl #[] np ((an, listOf vs.toArray nn) :: R)))
    (hzv : IntsAre vs zs) (hz : zs.length = 6) (hzb : ∀ n, Bd 6 (zs.getD n 0)) {i j k l : Int} {ta tb tc td : Tok} (h0 : 0 ≤ i) (h1 : i < j) (h2 : j < k) (h3 : k < l) (h4 : l < 6)
    {h : Heap} {tk : Nat} {m : Str → Option Value} (F : Fr g L h m) (N : News g L h (rsLed w X pos line tp tl #[.int i ta, .int j tb, .int k tc, .int l td] np L oc ol ((an, listOf vs.toArray nn) :: R))) (c1 : ol.data = .cell (some (.ref X.x))) {cv : Option Value} (c2 : oc.data = .cell cv)
    (e1 : m (Str.ofString "numbers") = some (.ref an))
    {Q : Flow → Shared → Prop} {E : Value → Shared → Prop}
    (hE : PassesOwn (model Pw w) ((ktrTop dp un gd cn cs L₀ a ccd cl outer).deeper (rsEnv L)) (rsEnv L) E)
    (hR : ∀ t af np' i j k l ta tb tc td th tw m h tk, 0 ≤ i → i < j → j < k → k < l → l < 6 → AtRest (zf zs) i j k l → (∀ q ∈ lexLed w X pos line tp tl #[] np' ((an, listOf vs.toArray nn) :: R), @Ne Nat q.1 af) → Fr g L h m →
      News g L h ((t, { cls := .type "tuple", data := .seq #[.ref af, .int (askedH (zf zs) i j k l) th, .int (askedW i j k l) tw] }) :: (af, listOf #[.int i ta, .int j tb, .int k tc, .int l td] 4) :: lexLed w X pos line tp tl #[] np' ((an, listOf vs.toArray nn) :: R)) → Q (.ret (.ref t)) { s with heap := h, toks := tk }) :
    wpAny (model Pw w) ((ktrTop dp un gd cn cs L₀ a ccd cl outer).deeper (rsEnv L)) (exec rs1.1 (rsEnv L)) Q E { s with heap := h, toks := tk } := by
  have hxL : @LT.lt Nat _ X.lp L := low _ (.head _)
  have hanL : @LT.lt Nat _ an L := low (an, _) (.tail _ (.tail _ (.tail _ (.tail _ (.tail _ (.tail _ (.tail _ (.tail _ (.tail _ (.tail _ (.head _)))))))))))
  have hrk := rank_le (zf zs) h0 h1 h2 h3 h4
  have low' : ∀ np' : Nat, ∀ p ∈ lexLed w X pos line tp tl #[] np' R, @LT.lt Nat _ p.1 L := fun np' p hp => by
    rcases List.mem_cons.mp hp with rfl | hp
    · exact hxL
    · exact low p (.tail _ (permJ (X := (lexLed w X pos line tp tl #[] np []).tail) hp))
  dsimp only [rsEnv, rsScope, rs1]
  refine for_led (s₀ := s) (h₀ := g) (fun n m led => ∃ np i j k l ta tb tc td oc cv, led = rsLed w X pos line tp tl #[.int i ta, .int j tb, .int k tc, .int l td] np L oc ol ((an, listOf vs.toArray nn) :: R) ∧ oc.data = .cell cv ∧ 0 ≤ i ∧ i < j ∧ j < k ∧ k < l ∧ l < 6 ∧ rank (zf zs) i j k l + n ≤ 14 ∧ m (Str.ofString "numbers") = some (.ref an)) 15 (fun i v => ∃ t, v = .int (0 + i) t) ?_ ?_ ?_ (hE := hE)
  · k_steps
    rename News _ _ _ _ => N9
    rename Fr _ _ _ _ => F9
    exact ready_range (a₀ := 0) _ rfl (by assumption) (by decide) rfl F9 N9 ⟨np, i, j, k, l, ta, tb, tc, td, oc, cv, rfl, c2, h0, h1, h2, h3, h4, hrk, e1⟩ ⟨rfl, rfl, rfl⟩
  rotate_left
  · rintro m₁ led hh tkk ⟨np', i, j, k, l, ta, tb, tc, td, oc, cv, rfl, c2, h0, h1, h2, h3, h4, hk, e1⟩ F1 N1
    exact absurd hk (by omega)
  clear F N c2 e1 h0 h1 h2 h3 h4 hrk i j k l ta tb tc td cv oc
  rintro n v m₁ led hh tkk I₁ o₁ hn ⟨t, rfl⟩ ⟨np', i, j, k, l, ta, tb, tc, td, oc, cv, rfl, c2, h0, h1, h2, h3, h4, hk, e1⟩ F1 N1 hI1
  k_fold
  have N1' : News g L hh (rsLed w X pos line tp tl #[.int i ta, .int j tb, .int k tc, .int l td] np' L oc ol ((I₁, o₁) :: (an, listOf vs.toArray nn) :: R)) := fun p hp => N1 p (permA (X := lexLed w X pos line tp tl #[.int i ta, .int j tb, .int k tc, .int l td] np' []) hp)
  have hr' : Apart X ((I₁, o₁) :: (an, listOf vs.toArray nn) :: R) := Apart.off (q := (I₁, o₁)) hr hI1
  refine wpAny_execs_cons ?_
  refine pop_four (dp := dp) (un := un) B XX T hd hu hX hxL hr' F1 N1' c1 (by passes_own) fun hh2 tk2 np2 D F2 N2 a2 off2 => ?_
  try dsimp only
  have bS := askedS_bd h0 h1 h2 h3 h4
  have bH := askedH_bd hzb h0 h1 h2 h3 h4
  have hOc : ∀ p ∈ lexLed w X pos line tp tl #[] np2 ((I₁, o₁) :: R), p.1 ≠ L + 1 + 1 := fun p hp => by
    rcases List.mem_cons.mp (lex_in hp) with rfl | hp
    · exact Ne.symm (hI1 (L + 1 + 1, oc) rs_c2)
    · have := low' _ p hp
      exact Nat.ne_of_lt (Nat.lt_trans this (by omega))
  have hOD : ∀ p ∈ lexLed w X pos line tp tl #[] np2 ((I₁, o₁) :: R), p.1 ≠ D := fun p hp => off2 p (permG (X := lexLed w X pos line tp tl #[] np2 []) hp)
  have hanD : @Ne Nat an D := off2 (an, listOf vs.toArray nn) (permH (X := lexLed w X pos line tp tl #[] np2 []))
  have hcD : @Ne Nat D (L + 1 + 1) := Ne.symm (off2 (L + 1 + 1, oc) rs_c2)
  have hlD : @Ne Nat (L + 1) D := off2 (L + 1, ol) rs_c1
  refine execs_cut 2 ?_
  refine rs_ask (dp := dp) (un := un) B XX T hd hu hzv hz hzb h0 h1 h2 h3 h4 hOc (by omega) hcD c2 bS bH F2 (fun p hp => N2 p (permB (X := lexLed w X pos line tp tl #[] np2 []) hp)) (by with_unfolding_all exact e1) (by with_unfolding_all rfl) (by passes_own) fun h3' tk3 m3 oc3 t1 t2 t3 t4 F3 N3 c3 g1 g2 g3 g4 g5 => ?_
  try dsimp only
  show Cut _
  unfold Cut
  refine wpAny_execs_cons ?_
  refine rs_look (dp := dp) (un := un) B XX T hd hu hzv hz hzb h0 h1 h2 h3 h4 hOc (by omega) hcD F3 N3 c3 g1 g2 g3 g4 g5 (by passes_own) fun h4' tk4 m4 oc4 t3 t4 F4 N4 c4 g1 g2 g3 g4 g5 => ?_
  try dsimp only
  refine wpAny_execs_cons ?_
  refine rs_out (dp := dp) (un := un) B XX T hd hu F4 N4 c4 g2 g3 g4 (by passes_own) (fun hq t h5 tk5 F5 N5 => ?_) (fun hq tk5 => ?_)
  · try dsimp only
    exact hR t D np2 i j k l ta tb tc td _ _ _ _ _ h0 h1 h2 h3 h4 (pk_rest _ h0 h1 h2 h3 h4 hq) (fun q hq => off2 q (permI (X := lexLed w X pos line tp tl #[] np2 []) hq)) F5 (fun p hp => N5 p (permF (X := lexLed w X pos line tp tl #[] np2 []) hp))
  try dsimp only
  refine execs_cut 2 ?_
  refine rs_near (dp := dp) (un := un) B XX T hd hu F4 N4 c4 g2 (by passes_own) fun h6 tk6 m6 t5 t6 F6 N6 hm6 ga gn => ?_
  try dsimp only
  show Cut _
  unfold Cut
  refine wpAny_execs_cons ?_
  have hne : ∀ {x y : Str}, x ≠ y → x ≠ y := fun h => h
  refine rs_swap_all (dp := dp) (un := un) B XX T hd hu (aheadN_le i j k l (pk (zf zs) i j k l 6).2) F6 (fun p hp => N6 p (permC hp)) c4 (fun q hq => ?_) ((hm6 _ (by decide) (by decide)).trans g2) ((hm6 _ (by decide) (by decide)).trans g3) ((hm6 _ (by decide) (by decide)).trans g5) ga gn (by passes_own) fun h7 tk7 n7 ws F7 hws N7 => ?_
  · rcases List.mem_cons.mp hq with rfl | hq
    · exact hanD
    rcases List.mem_cons.mp hq with rfl | hq
    · exact Ne.symm hcD
    rcases List.mem_cons.mp hq with rfl | hq
    · exact hlD
    · exact hOD q hq
  try dsimp only
  obtain ⟨i', j', k', l', hf, i0, i1, i2, i3, i4, hgt⟩ := pk_next (zf zs) h0 h1 h2 h3 h4 hq
  have hw := nextF_ints (IntsAre.cons i ta (.cons j tb (.cons k tc (.cons l td .nil)))) (pk (zf zs) i j k l 6).2 t4 (askedH (zf zs) i j k l) (pk (zf zs) i j k l 6).1 (aheadN i j k l (pk (zf zs) i j k l 6).2)
  rw [hf, ← hws] at hw
  obtain ⟨ta', tb', tc', td', rfl⟩ : ∃ ta' tb' tc' td', ws = [.int i' ta', .int j' tb', .int k' tc', .int l' td'] := by
    cases hw with
    | cons _ t1 hw => cases hw with
      | cons _ t2 hw => cases hw with
        | cons _ t3 hw => cases hw with
          | cons _ t4 hw => cases hw; exact ⟨t1, t2, t3, t4, rfl⟩
  have hrk' := rank_lt (zf zs) h0 h1 h2 h3 h4 i0 i1 i2 i3 i4 hgt
  refine wpAny_execs_cons ?_
  refine push_four (dp := dp) (un := un) B XX T hd hu hX hxL (sa := D) (ss := [.int i' ta', .int j' tb', .int k' tc', .int l' td']) (ns := n7) (rest := (D, listOf (List.toArray [.int i' ta', .int j' tb', .int k' tc', .int l' td']) n7) :: (I₁, o₁) :: (an, listOf vs.toArray nn) :: R) ?_ (.head _) (by show 4 ≤ 6; decide) F7 (fun p hp => N7 p (permD (X := lexLed w X pos line tp tl #[] np2 []) hp)) c1 ((hm6 _ (by decide) (by decide)).trans g2) (by passes_own) fun h8 tk8 m8 np8 F8 N8 hm8 => ?_
  · exact Apart.off (q := (D, _)) hr' off2
  try dsimp only
  refine wpAny_execs_nil ?_
  try dsimp only
  refine ⟨_, _, m8, _, rfl, F8, fun p hp => N8 p (permE (X := lexLed w X pos line tp tl #[.int i' ta', .int j' tb', .int k' tc', .int l' td'] np8 []) hp), ?_, np8, i', j', k', l', ta', tb', tc', td', oc4, _, rfl, c4, i0, i1, i2, i3, i4, by omega, ?_⟩
  · intro q hq
    rcases List.mem_cons.mp hq with rfl | hq
    · exact hI1 (X.lp, listOf #[.int i ta, .int j tb, .int k tc, .int l td] np') (.head _)
    rcases List.mem_append.mp (show q ∈ (lexLed w X pos line tp tl #[] 0 []).tail ++ ((L + 1 + 1, oc4) :: (L + 1, ol) :: (an, listOf vs.toArray nn) :: R) from hq) with hq | hq
    · exact hI1 q (.tail _ (List.mem_append_left _ hq))
    rcases List.mem_cons.mp hq with rfl | hq
    · exact hI1 (L + 1 + 1, oc) rs_c2
    · exact hI1 q (.tail _ (List.mem_append_right (lexLed w X pos line tp tl #[] 0 []).tail (.tail _ hq)))
  · rw [hm8 _ (by decide), hm6 _ (by decide) (by decide)]; exact g1
end

end Mine
end
theorem Mine.look40 : True := by first | (walk1; fail) | trivial
section
open PySem PySem.W PyProof.Rows PySem.Calls
set_option maxHeartbeats 4000000
namespace Mine
variable {w : World} {p : Program} {loose : List Str} {mean : ExcName → Option Value} {mg mb : Str → Option Value} {news : List (Addr × Obj)}
noncomputable def RestPost (w : World) (X : Lx) (pos line : Int) (tp tl : Tok) (zs : List Int) (rest : Led) (v : Value) (n' : Led) : Prop :=
  ∃ t af np' i j k l ta tb tc td th tw, v = .ref t ∧ 0 ≤ i ∧ i < j ∧ j < k ∧ k < l ∧ l < 6 ∧ AtRest (zf zs) i j k l ∧ (∀ q ∈ lexLed w X pos line tp tl #[] np' rest, @Ne Nat q.1 af) ∧
    n' = (t, { cls := .type "tuple", data := .seq #[.ref af, .int (askedH (zf zs) i j k l) th, .int (askedW i j k l) tw] }) :: (af, listOf #[.int i ta, .int j tb, .int k tc, .int l td] 4) :: lexLed w X pos line tp tl #[] np' rest
theorem c_rest {X : Lx} (hX : X.Ok) (pos line : Int) (tp tl : Tok) (np : Nat) {R : Led} {an sa : Addr} {nn ns : Nat} {vs ss : List Value} {zs : List Int} (hr : Apart X ((an, listOf vs.toArray nn) :: R)) (hm : (sa, listOf ss.toArray ns) ∈ R)
    (hzv : IntsAre vs zs) (hz : zs.length = 6) (hzb : ∀ n, Bd 6 (zs.getD n 0)) {i j k l : Int} (hss : IntsAre ss [i, j, k, l]) (h0 : 0 ≤ i) (h1 : i < j) (h2 : j < k) (h3 : k < l) (h4 : l < 6) :
    Claim w p loose mean mg mb 14 240 [.ref X.x, .ref an, .ref sa] (lexLed w X pos line tp tl #[] np ((an, listOf vs.toArray nn) :: R)) (RestPost w X pos line tp tl zs ((an, listOf vs.toArray nn) :: R)) := by
  intro dp un gd cn cs a ccd cl outer A₀ base h₀ L m s R' B F XX N T hk hd hu hret
  k_dflt cell_enter
  rename_i gp Lp hp tkp FGp F0 Bp Xp Tp lowp bigp o2 o1 d2 d1 N0
  replace d1 : o1.data = .cell (some (.ref X.x)) := d1.trans (by kernel_rfl)
  replace d2 : o2.data = .cell none := d2.trans (by kernel_rfl)
  obtain ⟨ta, tb, tc, td, rfl⟩ : ∃ ta tb tc td, ss = [.int i ta, .int j tb, .int k tc, .int l td] := by
    cases hss with
    | cons _ t1 hw => cases hw with
      | cons _ t2 hw => cases hw with
        | cons _ t3 hw => cases hw with
          | cons _ t4 hw => cases hw; exact ⟨t1, t2, t3, t4, rfl⟩
  have N1 : News gp Lp hp (rsLed w X pos line tp tl #[] np Lp o2 o1 ((an, listOf vs.toArray nn) :: R)) := fun p hp => N0 p (permK (X := lexLed w X pos line tp tl #[] np []) hp)
  have hxL : @LT.lt Nat _ X.lp Lp := lowp _ (.head _)
  clear F N B XX T
  show wpAny _ _ (execs (_ :: _) _) _ _ _
  refine wpAny_execs_cons ?_
  refine push_start (dp := dp) (un := un) Bp Xp Tp (by omega) (by omega) hX hxL hr (.tail _ hm) (by show 4 ≤ 6; decide) F0 N1 d1 (by with_unfolding_all rfl) (by passes_own) fun h2 tk2 m2 np2 F2 N2 hm2 => ?_
  dsimp only
  refine wpAny_execs_cons ?_
  refine rs_rounds (dp := dp) (un := un) Bp Xp Tp (by omega) (by omega) hX hr ?_ hzv hz hzb h0 h1 (by assumption) h3 h4 F2 N2 d1 d2 ((hm2 _ (by decide)).trans (by with_unfolding_all rfl)) (by passes_own) fun t af np' i j k l ta tb tc td th tw m h tk h0 h1 h2 h3 h4 hat hoff F5 N5 => ?_
  · intro p hp
    rcases List.mem_cons.mp hp with rfl | hp
    · exact hxL
    · exact lowp p (.tail _ hp)
  dsimp only
  refine leaveK_ F5 N5 fun kF kN => hret _ _ _ _ ⟨t, af, np', i, j, k, l, ta, tb, tc, td, th, tw, rfl, h0, h1, h2, h3, h4, hat, hoff, rfl⟩ kF kN

end Mine
end
theorem Mine.look41 : True := by first | (walk1; fail) | trivial
section
open PySem PySem.W PyProof.Rows PySem.Calls
set_option maxHeartbeats 4000000
namespace Mine
variable {w : World} {p : Program} {loose : List Str} {mean : ExcName → Option Value} {mg mb : Str → Option Value} {news : List (Addr × Obj)}
section
variable {g : Heap} {L : Nat} {s s' : Shared} {fa : Addr} {cd : Value}
open LCg in
theorem law_8 (B : Below callerA g [] g) (XX : (K w.params).In g) (T : Top p loose mean mg mb g) 
    {X : Lx} (hX : X.Ok) {pos line : Int} {tp tl : Tok} {np : Nat} {R : Led} {an sa : Addr} {vs ss : List Value} {zs : List Int} (hr : Apart X ((an, lst vs) :: R)) (hm : (sa, lst ss) ∈ R) {o1 : Obj} (hc : (L + 1, o1) ∈ R) (c1 : o1.data = .cell (some (.ref X.x))) {ps : Array Value} (hg2 : (nat_lit 192, tabObj ps) ∈ R)
    (hzv : IntsAre vs zs) (hz : zs.length = 6) (hzb : ∀ n, Bd 6 (zs.getD n 0)) {i j k l : Int} (hss : IntsAre ss [i, j, k, l]) (h0 : 0 ≤ i) (h1 : i < j) (h2 : j < k) (h3 : k < l) (h4 : l < 6)
    {h : Heap} {tk : Nat} {m : Str → Option Value} (F : Fr g L h m) (N : News g L h (lexLed w X pos line tp tl #[] np ((an, lst vs) :: R)))
    (e1 : m (Str.ofString "numbers") = some (.ref an)) (e2 : m (Str.ofString "start") = some (.ref sa))
    {Q : Flow → Shared → Prop} {E : Value → Shared → Prop}
    (hE : PassesOwn (model Pw w) (callerA.deeper (lwEnv L fa cd)) (lwEnv L fa cd) E)
    (hQ : ∀ h tk m, Fr g L h m → GrownAt 192 h → Q (.ret (.bool true)) { s with heap := h, toks := tk }) :
    wpAny (model Pw w) (callerA.deeper (lwEnv L fa cd)) (execs [lw8.1, lw9.1] (lwEnv L fa cd)) Q E { s with heap := h, toks := tk } := by
  dsimp only [lwEnv, lwScope, lw8, lw9]
  have Nc : News g L h ((L + 1, o1) :: lexLed w X pos line tp tl #[] np ((an, lst vs) :: R)) := fun q hq => by
    rcases List.mem_cons.mp hq with rfl | hq
    · exact N _ (.tail _ (.tail _ (.tail _ (.tail _ (.tail _ (.tail _ (.tail _ (.tail _ (.tail _ (.tail _ (.tail _ hc)))))))))))
    · exact N q hq
  clear N
  repeat ((fail_if_success (with_reducible show wpAny _ _ (call (Value.ref 240) _) _ _ _)); first | walk1 | (dsimp only; walk1))
  refine Claim.use (dp := 1 + claimMargin + 1) (un := 7) (c_rest hX pos line tp tl np hr hm hzv hz hzb hss h0 h1 h2 h3 h4) B F XX (fun q hq => Nc q (.tail _ hq)) T rfl (by decide) (by decide) ?_
  clear Nc hss h0 h1 h2 h3 h4
  rintro v n' h5 tk5 ⟨t, af, np', i, j, k, l, ta, tb, tc, td, th, tw, rfl, h0, h1, h2, h3, h4, hat, hoff, rfl⟩ F2 N2
  dsimp only
  have bH := askedH_bd hzb h0 h1 h2 h3 h4
  have bW := askedW_bd h0 h1 h2 h3 h4
  have hg := rest_le_w hat
  have g2 := (asked_due (zf zs) i j k l).symm
  have g3 := (asked_parts i j k l).symm
  generalize askedH (zf zs) i j k l = hh at *
  generalize askedW i j k l = ww at *
  have N3 : News g L h5 ((t, { cls := .type "tuple", data := .seq #[.ref af, .int hh th, .int ww tw] }) :: (an, lst vs) :: (af, listOf #[.int i ta, .int j tb, .int k tc, .int l td] 4) :: (nat_lit 192, tabObj ps) :: []) := fun q hq => by
    refine N2 q ?_
    rcases List.mem_cons.mp hq with rfl | hq
    · exact .head _
    rcases List.mem_cons.mp hq with rfl | hq
    · exact .tail _ (.tail _ (.tail _ (.tail _ (.tail _ (.tail _ (.tail _ (.tail _ (.tail _ (.tail _ (.tail _ (.tail _ (.head _))))))))))))
    rcases List.mem_cons.mp hq with rfl | hq
    · exact .tail _ (.head _)
    rcases List.mem_cons.mp hq with rfl | hq
    · exact .tail _ (.tail _ (.tail _ (.tail _ (.tail _ (.tail _ (.tail _ (.tail _ (.tail _ (.tail _ (.tail _ (.tail _ (.tail _ hg2))))))))))))
    · cases hq
  clear N2 F
  repeat ((fail_if_success (with_reducible show wpAny _ _ (call (Value.ref 247) _) _ _ _)); first | walk1 | (dsimp only; walk1))
  rename Fr _ _ _ _ => F9
  rename News _ _ _ _ => N9
  refine Claim.use (dp := 1 + claimMargin + 1) (un := 7) (c_greatest (news := [(nat_lit 192, tabObj ps)]) an af vs.length 4 vs zs hzv hz hzb i j k l hh ww ta tb tc td th tw 0 h0 h1 h2 h3 h4 bH bW hg g2 g3) B F9 XX (fun q hq => N9 q (.tail _ hq)) T rfl (by decide) (by decide) ?_
  rintro v n' h6 tk6 ⟨rfl, rfl⟩ F3 N3
  exact hQ _ _ _ F3 (GrownAt.of N3 (.tail _ (.tail _ (.head _))))
end

end Mine
end
theorem Mine.look42 : True := by first | (walk1; fail) | trivial
section
open PySem PySem.W PyProof.Rows PySem.Calls
set_option maxHeartbeats 4000000
namespace Mine
variable {w : World} {p : Program} {loose : List Str} {mean : ExcName → Option Value} {mg mb : Str → Option Value} {news : List (Addr × Obj)}
local macro_rules | `(tactic| walk_at "eval ListComp") => `(tactic| (k_here; k_dflt (refine ListComp_TH (h := ?_))))
local macro_rules | `(tactic| walk_at "exec Assign cons ListComp") => `(tactic| (k_here; k_dflt (refine Assign_ListComp_TH (h := ?_))))
section
variable {g : Heap} {L : Nat} {s s' : Shared} {fa : Addr} {cd : Value}
open LCg LCt in
theorem law_7 (B : Below callerA g [] g) (XX : (K w.params).In g) (T : Top p loose mean mg mb g) 
    {rows : List (Int × Bool × Int)} (h6 : rows.length = 6) {led : Led} {o2 : Obj} {ta : Addr} {ys : List Value} (hmt : (ta, lst ys) ∈ led) (hT : TellsAre led ys rows)
    {h : Heap} {tk : Nat} {m : Str → Option Value} (F : Fr g L h m) (N : News g L h ((L + 1 + 1, o2) :: led)) (c2 : o2.data = .cell (some (.ref ta)))
    {Q : Flow → Shared → Prop} {E : Value → Shared → Prop}
    (hE : PassesOwn (model Pw w) (callerA.deeper (lwEnv L fa cd)) (lwEnv L fa cd) E)
    (hQ : ∀ h tk an vs, IntsAre vs (startL rows 6) → Fr g L h (fun z => if z = Str.ofString "start" then some (.ref an) else m z) → News g L h ((an, lst vs) :: (L + 1 + 1, o2) :: led) → (∀ q ∈ ((L + 1 + 1, o2) :: led : Led), @Ne Nat q.1 an) → Q .next { s with heap := h, toks := tk }) :
    wpAny (model Pw w) (callerA.deeper (lwEnv L fa cd)) (exec lw7.1 (lwEnv L fa cd)) Q E { s with heap := h, toks := tk } := by
  dsimp only [lwEnv, lwScope, lw7]
  have hlen := hT.length
  k_steps
  rename News _ _ _ _ => N9
  rename Fr _ _ _ _ => F9
  rename IsRange _ _ _ _ _ _ _ _ => hr'
  refine CompSrcTH.mk (CompSrcT.range rfl F9 N9 hr' (by decide) (n := 6) rfl (by size_fits) fun gg => ?_)
  refine comp_goT (n := 6) (fun i vs news' => news' = ((L + 1 + 1, o2) :: led) ∧ IntsAre vs (startL rows i)) ?_ ?_ 6 0 [] _ (by omega) ⟨rfl, .nil⟩
  · rintro i v vs news' I oI C oC D m₂ h' tk' E' hi ⟨rfl, hvs⟩ ⟨t, rfl⟩ hC hx F' N' off ne
    rw [Int.zero_add] at hx
    clear F9 N9
    k_steps
    obtain ⟨y, hy⟩ : ∃ y, ys[i]? = some y := ⟨_, List.getElem?_eq_getElem (by omega)⟩
    obtain ⟨r, hr, a, t3, rfl, hma⟩ := hT.at i y hy
    have hst := startL_succ rows hr
    refine item_litK (vs := ys) (News.isList N' (.tail _ (.tail _ (.tail _ (.tail _ hmt))))) (Int.natCast_nonneg i) (by omega) (by rw [Int.toNat_natCast]; exact hy) ?_ (by with_unfolding_all rfl)
    have N2 : News g L h' ((a, { cls := .type "tuple", data := .seq #[.int r.1 t3, .bool r.2.1] }) :: (I, oI) :: (C, oC) :: (D, lst vs) :: (L + 1 + 1, o2) :: led) := fun q hq => by
      rcases List.mem_cons.mp hq with rfl | hq
      · exact N' _ (.tail _ (.tail _ (.tail _ (.tail _ hma))))
      · exact N' q hq
    dsimp only
    generalize r.2.1 = b at hst N2
    clear N'
    cases b with
    | true =>
      k_steps
      refine CompEnd.intro F' N2 _ (fun p hp => .tail _ hp) off trivial ⟨rfl, ?_⟩
      rw [hst, if_pos rfl, List.append_nil]
      exact hvs
    | false =>
      k_steps
      refine CompEnd.intro F' N2 _ (fun p hp => .tail _ hp) off trivial ⟨rfl, ?_⟩
      rw [hst, if_neg (by decide)]
      exact IntsAre.append hvs (.cons _ _ .nil)
  · rintro vs news' ⟨rfl, hvs⟩ D h' tk' F' N' off
    exact hQ _ _ D vs hvs F' N' (off1_mem off)
end

end Mine
end
theorem Mine.look43 : True := by first | (walk1; fail) | trivial
section
open PySem PySem.W PyProof.Rows PySem.Calls
set_option maxHeartbeats 4000000
namespace Mine
variable {w : World} {p : Program} {loose : List Str} {mean : ExcName → Option Value} {mg mb : Str → Option Value} {news : List (Addr × Obj)}
local macro_rules | `(tactic| walk_at "exec Assign cons ListComp") => `(tactic| (k_here; k_dflt (refine Assign_ListComp_PH (h := ?_))))
section
variable {g : Heap} {L : Nat} {s s' : Shared} {fa : Addr} {cd : Value}
open LCg LCp in
theorem law_6 (B : Below callerA g [] g) (XX : (K w.params).In g) (T : Top p loose mean mg mb g) 
    {rows : List (Int × Bool × Int)} (h6 : rows.length = 6) {led : Led} {o2 : Obj} {ta : Addr} {ys : List Value} (hmt : (ta, lst ys) ∈ led) (hT : TellsAre led ys rows)
    {h : Heap} {tk : Nat} {m : Str → Option Value} (F : Fr g L h m) (N : News g L h ((L + 1 + 1, o2) :: led)) (c2 : o2.data = .cell (some (.ref ta)))
    {Q : Flow → Shared → Prop} {E : Value → Shared → Prop}
    (hE : PassesOwn (model Pw w) (callerA.deeper (lwEnv L fa cd)) (lwEnv L fa cd) E)
    (hQ : ∀ h tk an vs, IntsAre vs (rows.map (·.1)) → Fr g L h (fun z => if z = Str.ofString "numbers" then some (.ref an) else m z) → News g L h ((an, lst vs) :: (L + 1 + 1, o2) :: led) → (∀ q ∈ ((L + 1 + 1, o2) :: led : Led), @Ne Nat q.1 an) → Q .next { s with heap := h, toks := tk }) :
    wpAny (model Pw w) (callerA.deeper (lwEnv L fa cd)) (exec lw6.1 (lwEnv L fa cd)) Q E { s with heap := h, toks := tk } := by
  dsimp only [lwEnv, lwScope, lw6]
  have hlen := hT.length
  k_steps
  refine SrcLPH.mk (SrcLP.ledger rfl F N (.tail _ hmt) (by rw [List.size_toArray, sizeLine_eq]; omega) fun gg => ?_)
  have hsz : ys.toArray.size = 6 := by rw [List.size_toArray]; omega
  rw [hsz]
  refine comp_goP (n := 6) (fun i vs news' => news' = ((L + 1 + 1, o2) :: led) ∧ IntsAre vs ((rows.take i).map (·.1))) ?_ ?_ 6 0 [] _ (by omega) ⟨rfl, .nil⟩
  · rintro i v vs news' hi ⟨rfl, hvs⟩ hv
    rw [List.getElem?_toArray] at hv
    obtain ⟨r, hr, a, t, rfl, hma⟩ := hT.at i v hv
    have htk : rows.take (i + 1) = rows.take i ++ [r] := by rw [List.take_add_one, hr]; rfl
    refine ⟨a, _, _, _, _, rfl, .tail _ hma, rfl, rfl, fun I oI C oC D m₂ h' tk' E' hC hx hx2 F' N' off ne => ?_⟩
    k_steps
    refine CompEnd.intro F' N' _ (fun p hp => hp) off (.inr ⟨_, .tail _ hmt, rfl, _, rfl⟩) ⟨rfl, ?_⟩
    rw [htk, List.map_append]
    exact IntsAre.append hvs (.cons _ _ .nil)
  · rintro vs news' ⟨rfl, hvs⟩ D h' tk' F' N' off
    rw [List.take_of_length_le (by omega)] at hvs
    exact hQ _ _ D vs hvs F' N' (off1_mem off)
end

end Mine
end
theorem Mine.look44 : True := by first | (walk1; fail) | trivial
section
open PySem PySem.W PyProof.Rows PySem.Calls
set_option maxHeartbeats 4000000
namespace Mine
variable {w : World} {p : Program} {loose : List Str} {mean : ExcName → Option Value} {mg mb : Str → Option Value} {news : List (Addr × Obj)}
section
variable {g : Heap} {L : Nat} {s s' : Shared} {fa : Addr} {cd : Value}
open LCg in
theorem law_5 (B : Below callerA g [] g) (XX : (K w.params).In g) (T : Top p loose mean mg mb g) 
    {X : Lx} (hX : X.Ok) (hlen : X.cs.length ≤ 10000) {R : Led} {o1 o2 : Obj} {rem : List Nat} {tp tl : Tok} {np : Nat} (hxL : @LT.lt Nat _ (L + 1 + 1) X.cp) (hr : Apart X R) (hs : rem <:+ X.cs) (hb : Behind rem [])
    {h : Heap} {tk : Nat} {m : Str → Option Value} (F : Fr g L h m) (N : News g L h (rsLed w X (X.posOf rem) (X.lineOf rem) tp tl #[] np L o2 o1 R)) (c1 : o1.data = .cell (some (.ref X.x)))
    {t : Tok} (em : m (Str.ofString "page") = some (.str X.page t))
    {Q : Flow → Shared → Prop} {E : Value → Shared → Prop}
    (hE : PassesOwn (model Pw w) (callerA.deeper (lwEnv L fa cd)) (lwEnv L fa cd) E)
    (hQ : ∀ h tk tp tl, Fr g L h m → News g L h (rsLed w X (X.posOf []) (X.lineOf []) tp tl #[] np L o2 o1 R) → Q .next { s with heap := h, toks := tk }) :
    wpAny (model Pw w) (callerA.deeper (lwEnv L fa cd)) (exec lw5.1 (lwEnv L fa cd)) Q E { s with heap := h, toks := tk } := by
  dsimp only [lwEnv, lwScope, lw5]
  have C9 := c_tok (w := w) (p := p) (loose := loose) (mean := mean) (mg := mg) (mb := mb) X hX rem hs hlen tp tl np _ (lw_apart hX hr hxL (o1 := o1) (o2 := o2))
  rw [token_last hb] at C9
  dsimp only [rsLed, lexLed] at N
  repeat ((fail_if_success (with_reducible show wpAny _ _ (call (Value.ref 127) _) _ _ _)); first | walk1 | (dsimp only; walk1))
  refine Claim.use (dp := 1 + claimMargin + 1) (un := 7) C9 B F XX N T rfl (by decide) (by decide) ?_
  rintro v n' h2 tk2 ⟨⟨t2, rfl⟩, tp2, tl2, rfl⟩ F2 N2
  dsimp only [lexLed] at N2
  dsimp only
  clear F N
  k_steps
  · exact absurd (line_end X) (by assumption)
  · exact hQ _ _ _ _ F2 N2
end

end Mine
end
theorem Mine.look45 : True := by first | (walk1; fail) | trivial
section
open PySem PySem.W PyProof.Rows PySem.Calls
set_option maxHeartbeats 4000000
namespace Mine
variable {w : World} {p : Program} {loose : List Str} {mean : ExcName → Option Value} {mg mb : Str → Option Value} {news : List (Addr × Obj)}
local macro_rules | `(tactic| walk_at "eval ListComp") => `(tactic| (k_here; k_dflt (refine ListComp_R (h := ?_))))
local macro_rules | `(tactic| walk_at "exec Assign cons ListComp") => `(tactic| (k_here; k_dflt (refine Assign_ListComp_R (h := ?_))))
section
variable {g : Heap} {L : Nat} {s s' : Shared} {fa : Addr} {cd : Value}
open LCg in
theorem law_4 (B : Below callerA g [] g) (XX : (K w.params).In g) (T : Top p loose mean mg mb g) 
    {rows : List (Int × Bool × Int)} (hok : RowsOk rows) {led : Led} {o2 : Obj} {ta al : Addr} {ys rs : List Value} (hm : (al, lst rs) ∈ led) (hmt : (ta, lst ys) ∈ led) (hR : RowsAre led rs rows) (hT : TellsAre led ys rows)
    {h : Heap} {tk : Nat} {m : Str → Option Value} (F : Fr g L h m) (N : News g L h ((L + 1 + 1, o2) :: led)) (c2 : o2.data = .cell (some (.ref ta)))
    (em : m (Str.ofString "drawn") = some (.ref al))
    {Q : Flow → Shared → Prop} {E : Value → Shared → Prop}
    (hE : PassesOwn (model Pw w) (callerA.deeper (lwEnv L fa cd)) (lwEnv L fa cd) E)
    (hQ : ∀ h tk, Fr g L h m → News g L h ((L + 1 + 1, o2) :: led) → Q .next { s with heap := h, toks := tk }) :
    wpAny (model Pw w) (callerA.deeper (lwEnv L fa cd)) (exec lw4.1 (lwEnv L fa cd)) Q E { s with heap := h, toks := tk } := by
  dsimp only [lwEnv, lwScope, lw4]
  have hlen := hR.length
  have h6 := hok.1
  k_steps
  refine SetupH.mk ?_
  refine wpAny_pyIter_list (News.isList N (.tail _ hm)) ?_
  refine list3_run (led := ((L + 1 + 1, o2) :: led)) (ax := al) (its := rs.toArray) (nx := rs.length) rfl (by rfl) (by rfl) (by rfl) (by rfl) (by decide) (by decide) (by decide) (by rw [List.size_toArray, sizeLine_eq]; omega)
    (fun i x y z => ∃ r t u, rows[i]? = some r ∧ x = .int r.1 t ∧ y = .bool r.2.1 ∧ z = .int r.2.2 u)
    (fun i ys news' => ∃ TT, news' = TT ++ ((L + 1 + 1, o2) :: led) ∧ TellsAre TT ys (rows.take i)) ?_ ?_ ?_ ?_ ?_ (F.push _) (N.grown (fun _ _ e => Heap.get?_push_of_some _ e)) (⟨_, Heap.get?_push_size _ rfl, rfl, rfl⟩) (fun p hp => Nat.ne_of_lt (Heap.lt_size (N p hp).1)) (Nat.ne_of_lt F.ns.lt) (next_is_new F) ⟨[], rfl, .nil⟩
  · rintro i zs news' ⟨TT, rfl, _⟩; exact List.mem_append_right _ (.tail _ hm)
  · rintro i zs news' v ⟨TT, rfl, _⟩ hv
    rw [List.getElem?_toArray] at hv
    obtain ⟨r, hr, a, t, u, rfl, hma⟩ := hR.at i v hv
    exact ⟨a, _, _, _, rfl, List.mem_append_right _ (.tail _ hma), r, t, u, hr, rfl, rfl, rfl⟩
  · rintro i zs news' T' x y z I oI C oC D m₂ h' tk' E' hi' ⟨TT, rfl, hTT⟩ hv hTm ⟨r, t, u, hr, rfl, rfl, rfl⟩ hC hx hy hz F' N' off ne
    have htk : rows.take (i + 1) = rows.take i ++ [r] := by rw [List.take_add_one, hr]; rfl
    k_steps
    rename_i D9 h9 F9 N9 l9
    obtain ⟨i1, i2, i3, i4⟩ := l9
    have i5 := all_low i4
    refine CompEnd.intro F9 N9 ((D9, { cls := .type "tuple", data := .seq #[.int r.1 t, .bool r.2.1] }) :: TT ++ ((L + 1 + 1, o2) :: led)) (fun q hq => ?_) (Off3.of fun q hq => ?_) trivial ⟨(D9, _) :: TT, rfl, ?_⟩
    · rcases List.mem_cons.mp hq with rfl | hq
      · exact .tail _ (.head _)
      rcases List.mem_cons.mp hq with rfl | hq
      · exact .tail _ (.tail _ (.head _))
      rcases List.mem_cons.mp hq with rfl | hq
      · exact .tail _ (.tail _ (.tail _ (.head _)))
      rcases List.mem_cons.mp hq with rfl | hq
      · exact .head _
      · exact .tail _ (.tail _ (.tail _ (.tail _ hq)))
    · rcases List.mem_cons.mp hq with rfl | hq
      · exact ⟨Nat.ne_of_gt i1, Nat.ne_of_gt i2, Nat.ne_of_gt i3⟩
      · exact off.mem q hq
    · rw [htk]
      exact (hTT.mono fun q hq => .tail _ hq).snoc ⟨D9, t, rfl, .head _⟩
  · rintro i zs news' ⟨TT, rfl, hTT⟩
    have := hTT.length
    rw [List.length_take] at this
    omega
  · rintro zs news' ⟨TT, rfl, hTT⟩ D h' tk' F' N' off
    rw [List.size_toArray, List.take_of_length_le (by omega)] at hTT
    dsimp only
    refine ne_told N' (.tail _ (List.mem_append_right _ (.tail _ hmt))) (hT.mono fun q hq => .tail _ (List.mem_append_right _ (.tail _ hq))) (.head _) (hTT.mono fun q hq => .tail _ (List.mem_append_left _ hq)) (Nat.le_of_ble_eq_true rfl) ?_
    k_steps
    exact hQ _ _ F' (fun q hq => N' q (.tail _ (List.mem_append_right _ hq)))
end

end Mine
end
theorem Mine.look46 : True := by first | (walk1; fail) | trivial
section
open PySem PySem.W PyProof.Rows PySem.Calls
set_option maxHeartbeats 4000000
namespace Mine
variable {w : World} {p : Program} {loose : List Str} {mean : ExcName → Option Value} {mg mb : Str → Option Value} {news : List (Addr × Obj)}
local macro_rules | `(tactic| walk_at "eval ListComp") => `(tactic| (k_here; k_dflt (refine ListComp_H (h := ?_))))
local macro_rules | `(tactic| walk_at "exec Assign cons ListComp") => `(tactic| (k_here; k_dflt (refine Assign_ListComp_H (h := ?_))))
theorem c_told_row (x : Int) (o : Bool) (sh : Nat) (t : Tok) : Claim w p loose mean mg mb 3 214 [.str (tx (sgE x o sh)) t] news (fun v n' => ∃ a t, (∀ q ∈ news, @LT.lt Nat _ q.1 a) ∧ v = .ref a ∧ n' = (a, { cls := .type "tuple", data := .seq #[.int x t, .bool o] }) :: news) := by
  obtain ⟨h1, h2⟩ := row_e x o sh
  have h3 : (tx (sgE x o sh)).cps.toList = sgE x o sh := rfl
  have hb : Bd 2 ((tx (sgE x o sh)).cps.toList.foldl toldStep (0, 1, false)).2.1 := by
    rw [h3, h2]
    unfold Bd
    dsimp only
    split <;> decide
  refine Claim.mono (c_told (tx (sgE x o sh)) t (fun c hc => (h1 c hc).1) hb) ?_
  rintro v n' ⟨a, u, hlt, rfl, rfl⟩
  refine ⟨a, u, hlt, rfl, ?_⟩
  rw [h3, h2]
  dsimp only
  rw [way_num]
section
variable {g : Heap} {L : Nat} {s s' : Shared} {fa : Addr} {cd : Value}
open LCg in
theorem law_3 (B : Below callerA g [] g) (XX : (K w.params).In g) (T : Top p loose mean mg mb g) 
    {X : Lx} (hX : X.Ok) {rows : List (Int × Bool × Int)} (hok : RowsOk rows) (hp : X.cs = pageOf rows) {R : Led} {o1 o2 : Obj} {tp tl : Tok} {np : Nat} (hxL : @LT.lt Nat _ (L + 1 + 1) X.cp) (hr : Apart X R) (hR1 : ∀ q ∈ R, @Ne Nat q.1 (L + 1 + 1)) {al : Addr} {rs : List Value} (hm : (al, lst rs) ∈ R) (hl6 : rs.length = 6)
    {h : Heap} {tk : Nat} {m : Str → Option Value} (F : Fr g L h m) (N : News g L h (rsLed w X 0 1 tp tl #[] np L o2 o1 R)) (c1 : o1.data = .cell (some (.ref X.x))) (c2 : o2.data = .cell none)
    (em : m (Str.ofString "drawn") = some (.ref al))
    {Q : Flow → Shared → Prop} {E : Value → Shared → Prop}
    (hE : PassesOwn (model Pw w) (callerA.deeper (lwEnv L fa cd)) (lwEnv L fa cd) E)
    (hQ : ∀ h tk rem tp tl TT ys ta o2', Fr g L h m → News g L h (rsLed w X (X.posOf rem) (X.lineOf rem) tp tl #[] np L o2' o1 ((ta, lst ys) :: (TT ++ R))) → o2'.data = .cell (some (.ref ta)) → rem <:+ X.cs → Behind rem [] → TellsAre TT ys rows → Apart X ((ta, lst ys) :: (TT ++ R)) → Q .next { s with heap := h, toks := tk }) :
    wpAny (model Pw w) (callerA.deeper (lwEnv L fa cd)) (exec lw3.1 (lwEnv L fa cd)) Q E { s with heap := h, toks := tk } := by
  have h6 := hok.1
  have hlen : X.cs.length ≤ 10000 := by rw [hp]; have := pageOf_len hok; omega
  have e0 : X.posOf X.cs = 0 := by unfold Lx.posOf; omega
  have e1 : X.lineOf X.cs = 1 := by unfold Lx.lineOf; rw [Nat.sub_self]; rfl
  dsimp only [lwEnv, lwScope, lw3]
  k_steps
  refine CompSrcH.mk (CompSrc.ledger rfl F (its := rs.toArray) (k := rs.length) N (rs_mem hm) (by rw [List.size_toArray, sizeLine_eq]; omega) fun gg => ?_)
  have hsz : rs.toArray.size = 6 := by rw [List.size_toArray, hl6]
  rw [hsz]
  refine comp_go (n := 6) (fun i ys news' => ∃ rem tp tl TT, news' = rsLed w X (X.posOf rem) (X.lineOf rem) tp tl #[] np L o2 o1 (TT ++ R) ∧ rem <:+ X.cs ∧ Behind rem (pageOf (rows.drop i)) ∧ TellsAre TT ys (rows.take i) ∧ Apart X (TT ++ R) ∧ ∀ q ∈ TT, @LT.lt Nat _ (L + 1 + 1) q.1) ?_ ?_ 6 0 [] _ (by omega) ⟨X.cs, tp, tl, [], by rw [e0, e1]; rfl, List.suffix_refl _, .inl hp, .nil, hr, fun q hq => nomatch hq⟩
  · rintro i v ys news' I oI C oC D m₂ h' tk' E' hi' ⟨rem, tp', tl', TT, rfl, hs, hb, ht, ha, hT⟩ hv hC hx F' N' off ne
    dsimp only [rsLed, lexLed] at N'
    clear F N
    repeat ((fail_if_success (with_reducible show wpAny _ _ (call (Value.ref 127) _) _ _ _)); first | walk1 | (dsimp only; walk1))
    have h6' : i < rows.length := by omega
    obtain ⟨r, hri⟩ : ∃ r, rows[i]? = some r := ⟨_, List.getElem?_eq_getElem h6'⟩
    have htk : rows.take (i + 1) = rows.take i ++ [r] := by rw [List.take_add_one, hri]; rfl
    obtain ⟨e2, e3⟩ := token_next (pageOf_drop hri ▸ hb)
    have e4 : (token rem).2 <:+ X.cs := token_suffix.trans hs
    have offm := off.mem
    have a0 : Apart X ((L + 1 + 1, o2) :: (L + 1, o1) :: (TT ++ R)) := lw_apart hX ha hxL
    have a1 : Apart X ((I, oI) :: (C, oC) :: (D, lst ys) :: (L + 1 + 1, o2) :: (L + 1, o1) :: (TT ++ R)) :=
      Apart.off (q := (I, oI)) (Apart.off (q := (C, oC)) (Apart.off (q := (D, lst ys)) a0 (fun p hp => (offm p hp).2.2)) (fun p hp => (offm p hp).2.1)) (fun p hp => (offm p hp).1)
    have C9 := c_tok (w := w) (p := p) (loose := loose) (mean := mean) (mg := mg) (mb := mb) X hX rem hs hlen tp' tl' np _ a1
    rw [e2] at C9
    generalize (token rem).2 = rem2 at C9 e3 e4
    refine Claim.use (dp := 1 + claimMargin + 1) (un := 7) C9 B F' XX (fun p hp => N' p ?_) T rfl (by decide) (by decide) ?_
    · have h1 := lex_in hp
      rcases List.mem_cons.mp h1 with rfl | h1
      · exact .head _
      have h1 := lex_in h1
      rcases List.mem_cons.mp h1 with rfl | h1
      · exact .tail _ (.head _)
      exact .tail _ (.tail _ (lex_in h1))
    rintro v n' h2 tk2 ⟨⟨t2, rfl⟩, tp2, tl2, rfl⟩ F2 N2
    dsimp only
    clear F' N'
    repeat ((fail_if_success (with_reducible show wpAny _ _ (call (Value.ref 214) _) _ _ _)); first | walk1 | (dsimp only; walk1))
    refine Claim.use (dp := 1 + claimMargin + 1) (un := 7) (c_told_row r.1 r.2.1 r.2.2.toNat t2) B F2 XX N2 T rfl (by decide) (by decide) ?_
    rintro v n' h3 tk3 ⟨a, t3, hlt, rfl, rfl⟩ F3 N3
    clear F2 N2
    have hIa : @LT.lt Nat _ I a := hlt (I, oI) (lex_out (.head _))
    have hCa : @LT.lt Nat _ C a := hlt (C, oC) (lex_out (.tail _ (lex_out (.head _))))
    have hDa : @LT.lt Nat _ D a := hlt (D, lst ys) (lex_out (.tail _ (lex_out (.tail _ (lex_out (.head _))))))
    have hLa : @LT.lt Nat _ (L + 1 + 1) a := hlt (L + 1 + 1, o2) (lex_out (.tail _ (lex_out (.tail _ (lex_out (.tail _ (lex_out (.head _))))))))
    have hXa : @LT.lt Nat _ X.lp a := hlt (X.lp, _) (.head _)
    refine CompEnd.intro F3 N3 (rsLed w X (X.posOf rem2) (X.lineOf rem2) tp2 tl2 #[] np L o2 o1 (((a, { cls := .type "tuple", data := .seq #[.int r.1 t3, .bool r.2.1] }) :: TT) ++ R)) (fun q hq => ?_) (Off3.of fun q hq => ?_) (Or.inr ⟨_, rs_mem (.tail _ (List.mem_append_right _ hm)), rfl, _, rfl⟩) ⟨rem2, tp2, tl2, (a, _) :: TT, rfl, e4, e3, ?_, Apart.up hX (q := (a, _)) ha hXa, fun q hq => ?_⟩
    · rcases List.mem_cons.mp hq with rfl | hq
      · exact .tail _ (lex_out (.head _))
      rcases List.mem_cons.mp hq with rfl | hq
      · exact .tail _ (lex_out (.tail _ (lex_out (.head _))))
      rcases List.mem_cons.mp hq with rfl | hq
      · exact .tail _ (lex_out (.tail _ (lex_out (.tail _ (lex_out (.head _))))))
      rcases List.mem_cons.mp (three_in (P := lexLed w X (X.posOf rem2) (X.lineOf rem2) tp2 tl2 #[] np []) hq) with rfl | hq
      · exact .head _
      · exact .tail _ (lex_out (.tail _ (lex_out (.tail _ (lex_out (.tail _ hq))))))
    · rcases List.mem_cons.mp (three_in (P := lexLed w X (X.posOf rem2) (X.lineOf rem2) tp2 tl2 #[] np []) hq) with rfl | hq
      · exact ⟨Nat.ne_of_gt hIa, Nat.ne_of_gt hCa, Nat.ne_of_gt hDa⟩
      · obtain ⟨o, ho⟩ := lex_same (pos' := X.posOf rem) (line' := X.lineOf rem) (tp' := tp') (tl' := tl') (push' := #[]) (np' := np) hq
        exact offm (q.1, o) ho
    · rw [htk]
      exact (ht.mono fun q hq => .tail _ hq).snoc ⟨a, t3, rfl, .head _⟩
    · rcases List.mem_cons.mp hq with rfl | hq
      · exact hLa
      · exact hT q hq
  · rintro ys news' ⟨rem, tp', tl', TT, rfl, hs, hb, ht, ha, hT⟩ D h' tk' F' N' off
    dsimp only
    dsimp only [rsLed, lexLed] at N'
    clear F N
    obtain ⟨x1, x2, x3, x4, p1, p2, p3, p4, p5, p6, p7, p8, p9⟩ := id hX
    obtain ⟨u1, u2, u3, u4, u5, u6, u7, u8, u9⟩ := hX.over (b := L + 1 + 1) (by assumption)
    have offm := off1_mem off
    have q1 : @Ne Nat X.lp (L + 1 + 1) := Nat.ne_of_gt u9
    have q2 : @Ne Nat X.x (L + 1 + 1) := Nat.ne_of_gt u8
    have q3 : @Ne Nat X.dx (L + 1 + 1) := Nat.ne_of_gt u7
    have q4 : @Ne Nat X.ds (L + 1 + 1) := Nat.ne_of_gt u6
    have q5 : @Ne Nat X.fs (L + 1 + 1) := Nat.ne_of_gt u5
    have q6 : @Ne Nat X.fr (L + 1 + 1) := Nat.ne_of_gt u4
    have q7 : @Ne Nat X.c' (L + 1 + 1) := Nat.ne_of_gt u3
    have q8 : @Ne Nat X.la (L + 1 + 1) := Nat.ne_of_gt u2
    have q9 : @Ne Nat X.ca (L + 1 + 1) := Nat.ne_of_gt u1
    have q10 : @Ne Nat X.cp (L + 1 + 1) := Nat.ne_of_gt (by assumption)
    have q11 : @Ne Nat (L + 1) (L + 1 + 1) := Nat.ne_of_lt (Nat.lt_succ_self _)
    have q12 : @Ne Nat D (L + 1 + 1) := Ne.symm (offm _ rs_c2)
    have q13 : ∀ q ∈ TT ++ R, q.1 ≠ L + 1 + 1 := fun q hq => by
      rcases List.mem_append.mp hq with hq | hq
      · exact Nat.ne_of_gt (hT q hq)
      · exact hR1 q hq
    k_steps
    rename Fr _ _ _ _ => F9
    rename News _ _ _ _ => N9
    rw [show rows.drop 6 = [] from List.drop_of_length_le (by omega)] at hb
    rw [show rows.take 6 = rows from List.take_of_length_le (by omega)] at ht
    refine hQ _ _ rem tp' tl' TT ys D _ F9 (fun q hq => N9 q ?_) (by assumption) hs hb ht ?_
    · exact three_in (P := lexLed w X (X.posOf rem) (X.lineOf rem) tp' tl' #[] np []) hq
    · exact Apart.off (q := (D, _)) ha fun p hp => offm p hp
end

end Mine
end
theorem Mine.look47 : True := by first | (walk1; fail) | trivial
section
open PySem PySem.W PyProof.Rows PySem.Calls
set_option maxHeartbeats 4000000
namespace Mine
variable {w : World} {p : Program} {loose : List Str} {mean : ExcName → Option Value} {mg mb : Str → Option Value} {news : List (Addr × Obj)}
local macro_rules | `(tactic| walk_at "eval ListComp") => `(tactic| (k_here; k_dflt (refine ListComp_R (h := ?_))))
local macro_rules | `(tactic| walk_at "exec Assign cons ListComp") => `(tactic| (k_here; k_dflt (refine Assign_ListComp_R (h := ?_))))
section
variable {g : Heap} {L : Nat} {s s' : Shared} {fa : Addr} {cd : Value}
open LCg in
theorem law_2 (B : Below callerA g [] g) (XX : (K w.params).In g) (T : Top p loose mean mg mb g) 
    {R : Led} {o1 o2 : Obj} {h : Heap} {tk : Nat} {m : Str → Option Value} (F : Fr g L h m) (N : News g L h ((nat_lit 192, tabObj #[]) :: (L + 1 + 1, o2) :: (L + 1, o1) :: R)) (c1 : o1.data = .cell none) (hL : 192 < L) (hR1 : ∀ q ∈ R, q.1 ≠ L + 1) (hR2 : ∀ q ∈ R, q.1 ≠ 192) {page : Str} {t : Tok} (em : m (Str.ofString "page") = some (.str page t))
    {Q : Flow → Shared → Prop} {E : Value → Shared → Prop}
    (hE : PassesOwn (model Pw w) (callerA.deeper (lwEnv L fa cd)) (lwEnv L fa cd) E)
    (hQ : ∀ X tp tl np (ps : Array Value) o1' h tk, X.Ok → X.page = page → (∀ q ∈ ((nat_lit 192, tabObj #[]) :: (L + 1 + 1, o2) :: (L + 1, o1) :: R : Led), @LT.lt Nat _ q.1 X.cp) → Fr g L h m → News g L h (lexLed w X 0 1 tp tl #[] np ((nat_lit 192, tabObj ps) :: (L + 1 + 1, o2) :: (L + 1, o1') :: R)) → o1'.data = .cell (some (.ref X.x)) → Q .next { s with heap := h, toks := tk }) :
    wpAny (model Pw w) (callerA.deeper (lwEnv L fa cd)) (exec lw2.1 (lwEnv L fa cd)) Q E { s with heap := h, toks := tk } := by
  dsimp only [lwEnv, lwScope, lw2]
  iterate 8 (first | walk1 | (dsimp only; walk1))
  have hne : ∀ q ∈ ((L + 1 + 1, o2) :: (L + 1, o1) :: R : Led), q.1 ≠ 192 := fun q hq => by
    rcases List.mem_cons.mp hq with rfl | hq
    · exact Nat.ne_of_gt (show 192 < L + 1 + 1 by omega)
    rcases List.mem_cons.mp hq with rfl | hq
    · exact Nat.ne_of_gt (show 192 < L + 1 by omega)
    exact hR2 q hq
  refine Claim.use (dp := 1 + claimMargin + 1) (un := 7) (t_lexer page _ hne) B F XX N T rfl (by decide) (by decide) ?_
  rintro v n' h2 tk2 ⟨X, hX, hXp, hlow, rfl, tp, tl, np, ps, rfl⟩ F2 N2
  dsimp only [lexLed] at N2
  have l1 : @LT.lt Nat _ (L + 1) X.cp := hlow (L + 1, o1) (.tail _ (.tail _ (.head _)))
  obtain ⟨x1, x2, x3, x4, p1, p2, p3, p4, p5, p6, p7, p8, p9⟩ := id hX
  obtain ⟨u1, u2, u3, u4, u5, u6, u7, u8, u9⟩ := hX.over (b := L + 1) (by assumption)
  have q1 : @Ne Nat X.lp (L + 1) := Nat.ne_of_gt u9
  have q2 : @Ne Nat X.x (L + 1) := Nat.ne_of_gt u8
  have q3 : @Ne Nat X.dx (L + 1) := Nat.ne_of_gt u7
  have q4 : @Ne Nat X.ds (L + 1) := Nat.ne_of_gt u6
  have q5 : @Ne Nat X.fs (L + 1) := Nat.ne_of_gt u5
  have q6 : @Ne Nat X.fr (L + 1) := Nat.ne_of_gt u4
  have q7 : @Ne Nat X.c' (L + 1) := Nat.ne_of_gt u3
  have q8 : @Ne Nat X.la (L + 1) := Nat.ne_of_gt u2
  have q9 : @Ne Nat X.ca (L + 1) := Nat.ne_of_gt u1
  have q10 : @Ne Nat X.cp (L + 1) := Nat.ne_of_gt (by assumption)
  have q11 : @Ne Nat 192 (L + 1) := by omega
  have q12 : @Ne Nat (L + 1 + 1) (L + 1) := Nat.ne_of_gt (Nat.lt_succ_self _)
  clear N F
  k_steps
  rename Fr _ _ _ _ => F9
  rename News _ _ _ _ => N9
  exact hQ X tp tl np ps _ _ _ hX hXp hlow F9 N9 (by assumption)
end

end Mine
end
theorem Mine.look48 : True := by first | (walk1; fail) | trivial
section
open PySem PySem.W PyProof.Rows PySem.Calls
set_option maxHeartbeats 4000000
namespace Mine
variable {w : World} {p : Program} {loose : List Str} {mean : ExcName → Option Value} {mg mb : Str → Option Value} {news : List (Addr × Obj)}
local macro_rules | `(tactic| walk_at "eval ListComp") => `(tactic| (k_here; k_dflt (refine ListComp_R (h := ?_))))
local macro_rules | `(tactic| walk_at "exec Assign cons ListComp") => `(tactic| (k_here; k_dflt (refine Assign_ListComp_R (h := ?_))))
section
variable {g : Heap} {L : Nat} {s s' : Shared} {fa : Addr} {cd : Value}
open LCg in
theorem law_1 (B : Below callerA g [] g) (XX : (K w.params).In g) (T : Top p loose mean mg mb g) 
    {led : Led} {h : Heap} {tk : Nat} {m : Str → Option Value} (F : Fr g L h m) (N : News g L h led) {al : Addr} {rs : List Value} {rows : List (Int × Bool × Int)} (hm : (al, lst rs) ∈ led) (hR : RowsAre led rs rows) (hok : RowsOk rows) (em : m (Str.ofString "drawn") = some (.ref al))
    {Q : Flow → Shared → Prop} {E : Value → Shared → Prop}
    (hE : PassesOwn (model Pw w) (callerA.deeper (lwEnv L fa cd)) (lwEnv L fa cd) E)
    (hQ : ∀ t h tk, Fr g L h (fun z => if z = Str.ofString "page" then some (.str ⟨(pageOf rows).toArray⟩ t) else m z) → News g L h led → Q .next { s with heap := h, toks := tk }) :
    wpAny (model Pw w) (callerA.deeper (lwEnv L fa cd)) (exec lw1.1 (lwEnv L fa cd)) Q E { s with heap := h, toks := tk } := by
  dsimp only [lwEnv, lwScope, lw1]
  have hlen := hR.length
  have h6 := hok.1
  k_steps
  refine SetupH.mk ?_
  refine wpAny_pyIter_list (News.isList N hm) ?_
  refine list3_run (led := led) (ax := al) (its := rs.toArray) (nx := rs.length) rfl (by rfl) (by rfl) (by rfl) (by rfl) (by decide) (by decide) (by decide) (by rw [List.size_toArray, sizeLine_eq]; omega)
    (fun i x y z => ∃ r t u, rows[i]? = some r ∧ x = .int r.1 t ∧ y = .bool r.2.1 ∧ z = .int r.2.2 u)
    (fun i ys news' => news' = led ∧ ∃ l : List (Str × Tok), ys = strValues l ∧ l.map (·.1) = ((rows.take i).map fun r => rowOf r.1 r.2.1 r.2.2.toNat).map tx) ?_ ?_ ?_ ?_ ?_ (F.push _) (N.grown (fun _ _ e => Heap.get?_push_of_some _ e)) (⟨_, Heap.get?_push_size _ rfl, rfl, rfl⟩) (fun p hp => Nat.ne_of_lt (Heap.lt_size (N p hp).1)) (Nat.ne_of_lt F.ns.lt) (next_is_new F) ⟨rfl, [], rfl, rfl⟩
  · rintro i ys news' ⟨rfl, _⟩; exact hm
  · rintro i ys news' v ⟨rfl, _⟩ hv
    rw [List.getElem?_toArray] at hv
    obtain ⟨r, hr, a, t, u, rfl, hma⟩ := hR.at i v hv
    exact ⟨a, _, _, _, rfl, hma, r, t, u, hr, rfl, rfl, rfl⟩
  · rintro i ys news' T' x y z I oI C oC D m₂ h' tk' E' hi' ⟨rfl, l, rfl, hl⟩ hv hTm ⟨r, t, u, hr, rfl, rfl, rfl⟩ hC hx hy hz F' N' off ne
    obtain ⟨r40, r0⟩ := hok.2 r (List.mem_of_getElem? hr)
    obtain ⟨sh, hsh⟩ : ∃ sh : Nat, r.2.2 = (sh : Int) := ⟨r.2.2.toNat, by omega⟩
    have htk : rows.take (i + 1) = rows.take i ++ [r] := by rw [List.take_add_one, hr]; rfl
    rw [hsh] at hz
    iterate 12 (first | walk1 | (dsimp only; walk1))
    refine Claim.use (dp := 1 + claimMargin + 1) (un := 7) (c_row r.1 sh r.2.1 t u r40) B F' XX N' T rfl (by decide) (by decide) ?_
    rintro v n' h2 tk2 ⟨⟨t2, rfl⟩, rfl⟩ F2 N2
    refine CompEnd.intro F2 N2 news' (fun p hp => hp) off trivial ⟨rfl, l ++ [(_, _)], by unfold strValues; rw [List.map_append]; rfl, ?_⟩
    rw [List.map_append, hl, htk, List.map_append, List.map_append, List.map_singleton, List.map_singleton, List.map_singleton, hsh]
    rfl
  · rintro i ys news' ⟨rfl, l, rfl, hl⟩
    have := congrArg List.length hl
    unfold strValues
    simp only [List.length_map, List.length_take] at this ⊢
    omega
  · rintro ys news' ⟨rfl, l, rfl, hl⟩ D h' tk' F' N' off
    rw [List.size_toArray, hlen, List.take_length] at hl
    dsimp only
    k_steps
    refine SC.join (News.isList N' (.head _)) hl (join_fits (fun l hl => ?_) (by simp; omega)) ?_
    · obtain ⟨r, hr, rfl⟩ := List.mem_map.mp hl
      exact Nat.le_trans (rowOf_len (hok.2 r hr).1 _ _) (by decide)
    intro t' k'
    k_steps
    rename Fr _ _ _ _ => F9
    rename News _ _ _ _ => N9
    rw [join_flat] at F9
    exact hQ _ _ _ F9 (fun q hq => N9 q (.tail _ hq))
end

end Mine
end
theorem Mine.look49 : True := by first | (walk1; fail) | trivial
section
open PySem PySem.W PyProof.Rows PySem.Calls
set_option maxHeartbeats 4000000
namespace Mine
variable {w : World} {p : Program} {loose : List Str} {mean : ExcName → Option Value} {mg mb : Str → Option Value} {news : List (Addr × Obj)}
section
variable {g : Heap} {L : Nat} {s s' : Shared} {fa : Addr} {cd : Value}
theorem ClaimP.use {Pre : Heap → Prop} {n : Nat} {f : Addr} {vs : List Value} {Post : Value → Led → Prop} {dp un : Nat} {gd : Option (List Code)} {cn : Str} {cs : Scope} {a : Addr} {ccd : Value} {cl : List (Str × Addr)} {outer : List Env} {A₀ : Around} {base h₀ : Heap} {L : Addr} {m : Str → Option Value} {s : Shared} {Q E : Value → Shared → Prop}
    (C : ClaimP Pre w p loose mean mg mb n f vs news Post) (ret : ∀ (v : Value) (news' : Led) (h' : Heap) (tk' : Nat), Post v news' → Fr h₀ L h' m → News h₀ L h' news' → Q v { s with heap := h', toks := tk' })
    (hp : Pre h₀ := by assumption) (B : Below A₀ base outer h₀ := by k_asm) (F : Fr h₀ L s.heap m := by k_asm) (X : (K w.params).In h₀ := by k_asm) (N : News h₀ L s.heap news := by k_asm) (T : Top p loose mean mg mb h₀ := by k_asm) (hk : cs.kind = .function := by rfl)
    (hd : dp + n < recursionLimit := by decide) (hu : un + 10 * n < cLine := by decide) :
    wpAny (model Pw w) (ktrTop dp un gd cn cs L a ccd cl outer) (call (.ref f) vs) Q E s := wpAny_call (C dp un gd cn cs a ccd cl outer A₀ base h₀ L m s _ hp B F X N T hk hd hu ret)
local macro_rules | `(tactic| walk_at "call ref") => `(tactic| (k_here; with_reducible refine atR 202 ?_; k_dflt (refine ClaimP.use (c_drawn _ (by assumption) (by assumption)) ?_; k_whole; intros; (try dsimp only))))
open LCg in
theorem law_0 (B : Below callerA g [] g) (XX : (K w.params).In g) (T : Top p loose mean mg mb g) 
    {news : Led} {h : Heap} {tk : Nat} {m : Str → Option Value} (F : Fr g L h m) (N : News g L h news) {sc : Addr} {vs : List Value} {ns : List Int} (hi : IntsAre vs ns) (hn : ns.length ≤ 63) (hP : g.IsList sc vs.toArray) (em : m (Str.ofString "script") = some (.ref sc))
    {Q : Flow → Shared → Prop} {E : Value → Shared → Prop}
    (hE : PassesOwn (model Pw w) (callerA.deeper (lwEnv L fa cd)) (lwEnv L fa cd) E)
    (hQ : ∀ v n' h tk, DrPost news v n' → Fr g L h (fun z => if z = Str.ofString "drawn" then some v else m z) → News g L h n' → Q .next { s with heap := h, toks := tk }) :
    wpAny (model Pw w) (callerA.deeper (lwEnv L fa cd)) (exec lw0.1 (lwEnv L fa cd)) Q E { s with heap := h, toks := tk } := by
  dsimp only [lwEnv, lwScope, lw0]
  k_steps
  exact hQ _ _ _ _ (by assumption) (by assumption) (by assumption)
end

end Mine
end
theorem Mine.look50 : True := by first | (walk1; fail) | trivial
section
open PySem PySem.W PyProof.Rows PySem.Calls
set_option maxHeartbeats 4000000
namespace Mine
variable {w : World} {p : Program} {loose : List Str} {mean : ExcName → Option Value} {mg mb : Str → Option Value} {news : List (Addr × Obj)}
section
variable {g : Heap} {L : Nat} {s s' : Shared} {fa : Addr} {cd : Value}
open LCg in
theorem law_all (B : Below callerA g [] g) (XX : (K w.params).In g) (T : Top p loose mean mg mb g) (hL : 192 < L)
    {o1 o2 : Obj} {h : Heap} {tk : Nat} {m : Str → Option Value} (F : Fr g L h m) (N : News g L h [(L + 1 + 1, o2), (L + 1, o1), (nat_lit 192, tabObj #[])]) (c1 : o1.data = .cell none) (c2 : o2.data = .cell none)
    {sc : Addr} {vs : List Value} {ns : List Int} (hi : IntsAre vs ns) (hn : ns.length ≤ 63) (hP : g.IsList sc vs.toArray) (em : m (Str.ofString "script") = some (.ref sc))
    {Q : Flow → Shared → Prop} {E : Value → Shared → Prop}
    (hE : PassesOwn (model Pw w) (callerA.deeper (lwEnv L fa cd)) (lwEnv L fa cd) E)
    (hQ : ∀ h tk m, Fr g L h m → GrownAt 192 h → Q (.ret (.bool true)) { s with heap := h, toks := tk }) :
    wpAny (model Pw w) (callerA.deeper (lwEnv L fa cd)) (execs [lw0.1, lw1.1, lw2.1, lw3.1, lw4.1, lw5.1, lw6.1, lw7.1, lw8.1, lw9.1] (lwEnv L fa cd)) Q E { s with heap := h, toks := tk } := by
  refine wpAny_execs_cons ?_
  refine law_0 B XX T F N hi hn hP em (by passes_own) fun v n1 h1 tk1 hD F1 N1 => ?_
  dsimp only
  obtain ⟨al, T1, rs, zs, i, j, rfl, rfl, hR, hS, hij, hj6, hal, hT1⟩ := hD
  have hok := drRows_ok hS i j
  have hl6 : rs.length = 6 := hR.length.trans (drRows_len zs i j)
  refine wpAny_execs_cons ?_
  refine law_1 (led := (al, lst rs) :: ([(L + 1 + 1, o2), (L + 1, o1), (nat_lit 192, tabObj #[])] ++ T1)) B XX T F1 N1 (.head _) (hR.mono fun q hq => .tail _ (List.mem_append_right _ hq)) hok (by with_unfolding_all rfl) (by passes_own) fun t h2 tk2 F2 N2 => ?_
  dsimp only
  refine wpAny_execs_cons ?_
  have ha1 : @Ne Nat (L + 1 + 1) al := hal _ (.head _)
  have ha2 : @Ne Nat (L + 1) al := hal _ (.tail _ (.head _))
  have ha3 : @Ne Nat 192 al := hal _ (.tail _ (.tail _ (.head _)))
  have hT2 : ∀ q ∈ T1, @LT.lt Nat _ (L + 1 + 1) q.1 := fun q hq => hT1 q hq _ (.head _)
  refine law_2 (R := (al, lst rs) :: T1) (o1 := o1) (o2 := o2) B XX T F2 (fun q hq => N2 q ?_) c1 hL (fun q hq => ?_) (fun q hq => ?_) (by with_unfolding_all rfl) (by passes_own) fun X tp tl np ps o1' h3 tk3 hX hXp hlow F3 N3 c1' => ?_
  · rcases List.mem_cons.mp hq with rfl | hq
    · exact .tail _ (.tail _ (.tail _ (.head _)))
    rcases List.mem_cons.mp hq with rfl | hq
    · exact .tail _ (.head _)
    rcases List.mem_cons.mp hq with rfl | hq
    · exact .tail _ (.tail _ (.head _))
    rcases List.mem_cons.mp hq with rfl | hq
    · exact .head _
    · exact .tail _ (.tail _ (.tail _ (.tail _ hq)))
  · rcases List.mem_cons.mp hq with rfl | hq
    · exact Ne.symm ha2
    · exact Nat.ne_of_gt (Nat.lt_trans (Nat.lt_succ_self _) (hT2 q hq))
  · rcases List.mem_cons.mp hq with rfl | hq
    · exact Ne.symm ha3
    · exact Nat.ne_of_gt (show 192 < q.1 from Nat.lt_trans hL (Nat.lt_trans (by omega) (hT2 q hq)))
  dsimp only
  clear N1 N2 F1 F2 F N
  have hp : X.cs = pageOf (drRows zs i j) := by unfold Lx.cs; rw [hXp]
  have hxL : @LT.lt Nat _ (L + 1 + 1) X.cp := hlow (L + 1 + 1, o2) (.tail _ (.head _))
  have hXo := id hX
  obtain ⟨x1, x2, x3, x4, p1, p2, p3, p4, p5, p6, p7, p8, p9⟩ := hXo
  have hr : Apart X ((nat_lit 192, tabObj ps) :: (al, lst rs) :: T1) := by
    have : ∀ q ∈ ((nat_lit 192, tabObj ps) :: (al, lst rs) :: T1 : Led), @LT.lt Nat _ q.1 X.cp := fun q hq => by
      rcases List.mem_cons.mp hq with rfl | hq
      · exact hlow (nat_lit 192, tabObj #[]) (.head _)
      · exact hlow q (.tail _ (.tail _ (.tail _ hq)))
    have w1 : @LT.lt Nat _ X.cp X.la := by omega
    have w2 : @LT.lt Nat _ X.cp X.dx := by omega
    have w3 : @LT.lt Nat _ X.cp X.lp := by omega
    exact ⟨fun q hq => Nat.ne_of_lt (Nat.lt_trans (this q hq) w1), fun q hq => Nat.ne_of_lt (Nat.lt_trans (this q hq) w2), fun q hq => Nat.ne_of_lt (Nat.lt_trans (this q hq) w3)⟩
  have hlen : X.cs.length ≤ 10000 := by rw [hp]; have := pageOf_len hok; omega
  refine wpAny_execs_cons ?_
  refine law_3 (tp := tp) (tl := tl) (np := np) (R := (nat_lit 192, tabObj ps) :: (al, lst rs) :: T1) (o1 := o1') (o2 := o2) B XX T hX hok hp hxL hr (fun q hq => ?_) (.tail _ (.head _)) hl6 F3 (fun q hq => N3 q ?_) c1' c2 (by with_unfolding_all rfl) (by passes_own) fun h4 tk4 rem tp2 tl2 TT ys ta o2' F4 N4 c2' hs hb ht hr2 => ?_
  · rcases List.mem_cons.mp hq with rfl | hq
    · exact Nat.ne_of_lt (show 192 < L + 1 + 1 by omega)
    rcases List.mem_cons.mp hq with rfl | hq
    · exact Ne.symm ha1
    · exact Nat.ne_of_gt (hT2 q hq)
  · exact mid_out (P := lexLed w X 0 1 tp tl #[] np []) (three_in (P := lexLed w X 0 1 tp tl #[] np []) hq)
  dsimp only
  clear N3 F3 tp tl
  generalize hB : (ta, lst ys) :: (TT ++ ((nat_lit 192, tabObj ps) :: (al, lst rs) :: T1)) = BB at *
  have hin : ∀ {pos line : Int} {tp tl : Tok} {q : Addr × Obj}, q ∈ BB → q ∈ lexLed w X pos line tp tl #[] np ((L + 1, o1') :: BB) := fun hq =>
    .tail _ (.tail _ (.tail _ (.tail _ (.tail _ (.tail _ (.tail _ (.tail _ (.tail _ (.tail _ (.tail _ hq))))))))))
  have hta : (ta, lst ys) ∈ BB := hB ▸ .head _
  have hTT : ∀ q ∈ TT, q ∈ BB := fun q hq => hB ▸ .tail _ (List.mem_append_left _ hq)
  have hal9 : (al, lst rs) ∈ BB := hB ▸ .tail _ (List.mem_append_right _ (.tail _ (.head _)))
  have hT9 : ∀ q ∈ T1, q ∈ BB := fun q hq => hB ▸ .tail _ (List.mem_append_right _ (.tail _ (.tail _ hq)))
  have h192 : (nat_lit 192, tabObj ps) ∈ BB := hB ▸ .tail _ (List.mem_append_right _ (.head _))
  clear hB
  refine wpAny_execs_cons ?_
  refine law_4 (led := lexLed w X (X.posOf rem) (X.lineOf rem) tp2 tl2 #[] np ((L + 1, o1') :: BB)) (o2 := o2') B XX T hok (hin hal9) (hin hta) (hR.mono fun q hq => hin (hT9 q hq)) (ht.mono fun q hq => hin (hTT q hq)) F4 (fun q hq => N4 q (lex_out hq)) c2' (by with_unfolding_all rfl) (by passes_own) fun h5 tk5 F5 N5 => ?_
  dsimp only
  clear N4 F4
  refine wpAny_execs_cons ?_
  refine law_5 (R := BB) (tp := tp2) (tl := tl2) (np := np) (o1 := o1') (o2 := o2') (rem := rem) (t := t) B XX T hX hlen hxL hr2 hs hb F5 (fun q hq => N5 q (lex_in hq)) c1' ?_ (by passes_own) fun h6 tk6 tp3 tl3 F6 N6 => ?_
  · rw [hXp]; with_unfolding_all rfl
  dsimp only
  clear N5 F5
  refine wpAny_execs_cons ?_
  have h6 := hok.1
  refine law_6 (led := lexLed w X (X.posOf []) (X.lineOf []) tp3 tl3 #[] np ((L + 1, o1') :: BB)) (o2 := o2') B XX T h6 (hin hta) (ht.mono fun q hq => hin (hTT q hq)) F6 (fun q hq => N6 q (lex_out hq)) c2' (by passes_own) fun h7 tk7 an ws hws F7 N7 han => ?_
  dsimp only
  clear N6 F6
  refine wpAny_execs_cons ?_
  refine law_7 (led := (an, lst ws) :: lexLed w X (X.posOf []) (X.lineOf []) tp3 tl3 #[] np ((L + 1, o1') :: BB)) (o2 := o2') B XX T h6 (.tail _ (hin hta)) (ht.mono fun q hq => .tail _ (hin (hTT q hq))) F7 (fun q hq => N7 q (permC hq)) c2' (by passes_own) fun h8 tk8 sa ss hss F8 N8 hsa => ?_
  dsimp only
  clear N7 F7
  obtain ⟨a, b, c, d, hst, a0, ab, bc, cd, d6⟩ := start_four zs hij hj6
  rw [hst] at hss
  refine law_8 (pos := X.posOf []) (line := X.lineOf []) (tp := tp3) (tl := tl3) (np := np) (R := (sa, lst ss) :: (L + 1 + 1, o2') :: (L + 1, o1') :: BB) (o1 := o1') (an := an) (sa := sa) (vs := ws) (ss := ss) (zs := (drRows zs i j).map (·.1)) B XX T hX ?_ (.head _) (.tail _ (.tail _ (.head _))) c1' (.tail _ (.tail _ (.tail _ h192))) hws ?_ (nums_bd hok) hss a0 ab bc cd d6 F8 (fun q hq => N8 q ?_) (by with_unfolding_all rfl) (by with_unfolding_all rfl) (by passes_own) hQ
  · have hA : Apart X ((L + 1 + 1, o2') :: (L + 1, o1') :: BB) := lw_apart hX hr2 hxL
    exact Apart.off (q := (an, lst ws)) (Apart.off (q := (sa, lst ss)) hA fun p hp => hsa p (.tail _ (.tail _ hp))) fun p hp => han p (.tail _ hp)
  · rw [List.length_map]; exact h6
  · rcases List.mem_cons.mp (lex_in hq) with rfl | hq
    · exact .tail _ (.tail _ (.head _))
    rcases List.mem_cons.mp (lex_in hq) with rfl | hq
    · exact .head _
    rcases List.mem_cons.mp (lex_in hq) with rfl | hq
    · exact .tail _ (.head _)
    · exact .tail _ (.tail _ (.tail _ hq))
end

end Mine
end
theorem Mine.look51 : True := by first | (walk1; fail) | trivial
section
open PySem PySem.W PyProof.Rows PySem.Calls
namespace Mine
theorem law_row_said : PySem.Challenge.rw_wj0062_01.row.wellSaid = true := by
  unfold OpenRow.wellSaid OpenRow.partSaid looksOpen
  repeat' (with_reducible refine look_both ?_ ?_)
  all_goals decide +kernel
theorem law_said : PySem.Challenge.rw_wj0062_01.wellSaid = true := by
  unfold OpenLaw.wellSaid
  repeat' (with_reducible refine look_both ?_ ?_)
  · exact law_row_said
  all_goals decide +kernel
end Mine
open Mine
set_option maxHeartbeats 8000000 in
theorem PySem.Challenge.cw_wj0062_01_holds : PySem.Challenge.rw_wj0062_01.Holds := by
  w_on
  refine holds_law law_said fun said => ?_
  refine PySem.W.holds_open (q := qv) (loose := looseL) (Xt := Xt9) (XP := XL qv []) (Yf := Hk.obs) (Ya := Hk.val) (YP := Hk.says) (N := 40000) left (Hk.of) (Hk.keeps) (fun s e => xl_of s (Bool.and_eq_true_iff.mp e).1) XL.keeps (by rfl) (by rfl) (by rfl) (fun s e => recFacts_of (Bool.and_eq_true_iff.mp e).2) (by rfl) (by assumption) (by decide +kernel) ⟨rfl, rfl, rfl, rfl, rfl, by decide +kernel⟩ ?hw ?hc
  case hw => w_witness2
  case hc =>
    intro w s₀ s₁ mg mb G Y fa o pm cd doc dV kV ho hd hcd hD hmg hg args vals as hpre hlay hrd hwl hlo
    have KX := km_in_of Y
    km_tabs Y
    have X := (Ground.X G).1
    have V := (Ground.X G).2
    refine Ground.open G ?_
    intro T B D TE TW
    try (refine guard_noD D (by decide +kernel) ?_; clear D)
    km_lay T hmg ho hd cd
    clear hmg
    wrow_args hpre hlay hrd hwl hlo
    all_goals (
      first | refine callC_kw (enter_call ?_) | refine enter_call ?_
      w_top on
      kn_posts
      w_call any ho hd hcd hD T F
      clear hd
      kn_ghosts F T
      k_drop
      skip)
    rename News _ _ _ _ => N9
    rename Fr _ _ _ _ => F9
    rename Below _ _ _ _ => B9
    rename Top _ _ _ _ _ _ => T9
    rename Frag.In _ _ => X9
    rename IntsAre _ _ => I9

    show wpAny (model Pw w) _ _ _ _ _
    show wpAny (model Pw w) (Around.deeper callerA (lwEnv _ _ _)) _ _ _ _
    show wpAny (model Pw w) (Around.deeper callerA (lwEnv _ _ _)) (execs [lw0.1, lw1.1, lw2.1, lw3.1, lw4.1, lw5.1, lw6.1, lw7.1, lw8.1, lw9.1] (lwEnv _ _ _)) _ _ _
    rename (¬ _ < _) => hc9
    refine law_all (g := ghostOf s₁.heap [(196, 192)]) B9 X9 T9 ?h1 F9 N9 ?h2 ?h3 I9 ?h4 (by assumption) ?h5 ?h6 ?h7
    case h1 => assumption
    case h2 => exact tr_cell (by assumption) (by kernel_rfl)
    case h3 => exact tr_cell (by assumption) (by kernel_rfl)
    case h4 => omega
    case h5 => with_unfolding_all rfl
    case h6 => passes_own
    intro h tk m F7 G7
    exact ⟨law_good F7 hg rfl, G7, True.intro⟩

end
end
