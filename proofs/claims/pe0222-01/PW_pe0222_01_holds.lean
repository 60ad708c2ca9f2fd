import PyProof.Rows.All
import Wide.All
import OpenK.AllK
import Wide.FinOn
import PySem.Challenge.RW_pe0222_01
set_option Elab.async false

section
open PySem PySem.W PySem.Calls PyProof.Rows
set_option maxRecDepth 100000
namespace Mine
noncomputable abbrev prg : Program := PySem.Challenge.rw_pe0222_01.prog
noncomputable def stm (i : Nat) : Stmt := PySem.Challenge.pw_pe0222_01.main.body.getD i (.Pass default)
noncomputable def fnD (i : Nat) (code dflt pm : Value) (g : Addr) (ct : Value) (b : Addr) : FuncData := match stm i with
  | .FunctionDef name args body _ _ _ scope _ _ _ => { name := name, qualname := name, params := args, body := .stmts body, scope := scope, globals := g, closure := [], defaults := dflt, kwdefaults := .none, doc := .none, pyModule := pm, annotations := none, code := code, closureTuple := ct, builtins := b }
  | _ => default
noncomputable def bodyAt (i : Nat) : List Stmt := match stm i with
  | .FunctionDef _ _ body _ _ _ _ _ _ _ => body
  | _ => []
noncomputable def b3pairs : List (PySem.Expr × PySem.Expr) := match stm 7 with
  | .Assign _ (.Dict ks vs _) _ => (ks.filterMap id).zip vs
  | _ => []
noncomputable def b3ent (p : (PySem.Expr × PySem.Expr) × Nat) : DictEntry := match p with
  | ((.Constant (.int k) _ _, .Constant (.str x) _ _), j) =>
    if j < 646 then ⟨k, .int k (280 + 3 * j), .str x (281 + 3 * j)⟩ else ⟨k, .int k (2218 + 2 * (j - 646)), .str x (2219 + 2 * (j - 646))⟩
  | _ => ⟨0, .none, .none⟩
noncomputable def b3ents : List DictEntry := b3pairs.zipIdx.map b3ent
noncomputable def K (P : Params) : Frag := [
  (2, ⟨.none, none, (.dict #[] 0), #[]⟩),
  (3, ⟨(.type "dict"), none, (.dict #[⟨PyData.keyHash P (Str.ofString "__name__"), .str (Str.ofString "__name__") 165, (.str (Str.ofString "law_pe0222_01") 2239)⟩, ⟨PyData.keyHash P (Str.ofString "__doc__"), .str (Str.ofString "__doc__") 166, .none⟩, ⟨PyData.keyHash P (Str.ofString "__package__"), .str (Str.ofString "__package__") 167, .none⟩, ⟨PyData.keyHash P (Str.ofString "__loader__"), .str (Str.ofString "__loader__") 168, (.builtin "__main__.__loader__#opaque")⟩, ⟨PyData.keyHash P (Str.ofString "__spec__"), .str (Str.ofString "__spec__") 169, .none⟩, ⟨PyData.keyHash P (Str.ofString "__annotations__"), .str (Str.ofString "__annotations__") 170, (.ref 6)⟩, ⟨PyData.keyHash P (Str.ofString "__builtins__"), .str (Str.ofString "__builtins__") 171, (.ref 4)⟩, ⟨PyData.keyHash P (Str.ofString "__file__"), .str (Str.ofString "__file__") 173, (.str (Str.ofString "/claim/cut.py") 172)⟩, ⟨PyData.keyHash P (Str.ofString "__cached__"), .str (Str.ofString "__cached__") 174, .none⟩, ⟨PyData.keyHash P (Str.ofString "cmp_to_key"), .str (Str.ofString "cmp_to_key") 197, (.ref 21)⟩, ⟨PyData.keyHash P (Str.ofString "_initial_missing"), .str (Str.ofString "_initial_missing") 198, (.ref 22)⟩, ⟨PyData.keyHash P (Str.ofString "reduce"), .str (Str.ofString "reduce") 210, (.ref 30)⟩, ⟨PyData.keyHash P (Str.ofString "b1_set"), .str (Str.ofString "b1_set") 272, (.ref 38)⟩, ⟨PyData.keyHash P (Str.ofString "in_table_b1"), .str (Str.ofString "in_table_b1") 279, (.ref 48)⟩, ⟨PyData.keyHash P (Str.ofString "b3_exceptions"), .str (Str.ofString "b3_exceptions") 2230, (.ref 49)⟩, ⟨PyData.keyHash P (Str.ofString "map_table_b3"), .str (Str.ofString "map_table_b3") 2238, (.ref 94)⟩, ⟨PyData.keyHash P (Str.ofString "_law_text"), .str (Str.ofString "_law_text") 2246, (.ref 99)⟩, ⟨PyData.keyHash P (Str.ofString "_law_moves"), .str (Str.ofString "_law_moves") 2252, (.ref 106)⟩, ⟨PyData.keyHash P (Str.ofString "_law_joined"), .str (Str.ofString "_law_joined") 2258, (.ref 111)⟩, ⟨PyData.keyHash P (Str.ofString "_law_deed"), .str (Str.ofString "_law_deed") 2267, (.ref 118)⟩, ⟨PyData.keyHash P (Str.ofString "_law_compared"), .str (Str.ofString "_law_compared") 2276, (.ref 125)⟩, ⟨PyData.keyHash P (Str.ofString "_law_told"), .str (Str.ofString "_law_told") 2282, (.ref 130)⟩, ⟨PyData.keyHash P (Str.ofString "_law_due"), .str (Str.ofString "_law_due") 2288, (.ref 135)⟩, ⟨PyData.keyHash P (Str.ofString "law"), .str (Str.ofString "law") 2296, (.ref 142)⟩] 24), #[]⟩),
  (6, ⟨(.type "dict"), none, (.dict #[] 0), #[]⟩),
  (15, ⟨(.type "tuple"), none, (.seq #[] 0), #[]⟩),
  (17, ⟨(.type "tuple"), none, (.seq #[(.str (Str.ofString "mycmp") 192), (.str (Str.ofString "K") 193)] 0), #[]⟩),
  (18, ⟨(.type "tuple"), none, (.seq #[(.str (Str.ofString "mycmp") 194)] 0), #[]⟩),
  (20, ⟨(.type "code"), none, (.fields #[(.str (Str.ofString "cmp_to_key") 189), (.str (Str.ofString "cmp_to_key") 190), (.str (Str.ofString "/claim/cut.py") 191), (.int 2 0), (.int 1 0), (.int 0 0), (.int 0 0), (.int 3 0), (.ref 15), (.bool true), (.int 181 0), (.ref 16), .none, (.ref 17), (.ref 18), (.ref 19), (.int 195 0), (.int 2 0), (.str (Str.ofString "/claim/cut.py") 196)]), #[]⟩),
  (21, ⟨(.type "function"), none, (.func (fnD 1 (.ref 20) .none (.str (Str.ofString "cpy313.functools") 187) 3 .none 0)), #[]⟩),
  (22, ⟨(.type "object"), none, .plain, #[]⟩),
  (23, ⟨(.type "tuple"), none, (.seq #[(.ref 22)] 0), #[]⟩),
  (24, ⟨(.type "tuple"), none, (.seq #[] 0), #[]⟩),
  (25, ⟨.none, none, (.fields #[]), #[]⟩),
  (26, ⟨(.type "tuple"), none, (.seq #[(.str (Str.ofString "function") 202), (.str (Str.ofString "sequence") 203), (.str (Str.ofString "initial") 204), (.str (Str.ofString "it") 205), (.str (Str.ofString "value") 206), (.str (Str.ofString "element") 207)] 0), #[]⟩),
  (27, ⟨(.type "tuple"), none, (.seq #[] 0), #[]⟩),
  (29, ⟨(.type "code"), none, (.fields #[(.str (Str.ofString "reduce") 199), (.str (Str.ofString "reduce") 200), (.str (Str.ofString "/claim/cut.py") 201), (.int 28 0), (.int 3 0), (.int 0 0), (.int 0 0), (.int 3 0), (.ref 24), (.bool true), (.int 181 0), (.ref 25), .none, (.ref 26), (.ref 27), (.ref 28), (.int 208 0), (.int 28 0), (.str (Str.ofString "/claim/cut.py") 209)]), #[]⟩),
  (30, ⟨(.type "function"), none, (.func (fnD 3 (.ref 29) (.ref 23) (.str (Str.ofString "cpy313.functools") 187) 3 .none 0)), #[]⟩),
  (38, ⟨(.type "set"), none, (.set #[(65024, (.int 65024 229)), (65025, (.int 65025 230)), (65026, (.int 65026 231)), (65027, (.int 65027 232)), (65028, (.int 65028 233)), (65029, (.int 65029 234)), (6150, (.int 6150 215)), (65030, (.int 65030 235)), (65031, (.int 65031 236)), (65032, (.int 65032 237)), (65033, (.int 65033 238)), (6155, (.int 6155 216)), (6156, (.int 6156 217)), (6157, (.int 6157 218)), (8203, (.int 8203 219)), (8204, (.int 8204 220)), (8205, (.int 8205 221)), (65034, (.int 65034 239)), (65035, (.int 65035 240)), (65036, (.int 65036 241)), (65037, (.int 65037 242)), (65038, (.int 65038 243)), (65039, (.int 65039 244)), (173, (.int 173 213)), (847, (.int 847 214)), (8288, (.int 8288 222)), (65279, (.int 65279 223))] 29 ⟨127, #[0, 1, 2, 3, 4, 5, 6, 7, 8, 9, 10, 11, 12, 13, 14, 15, 16, 17, 18, 19, 20, 21, 22, 45, 79, 96, 127], #[], 0, !P.followText "set-order", 2, true⟩), #[]⟩),
  (42, ⟨(.type "tuple"), none, (.seq #[] 0), #[]⟩),
  (43, ⟨.none, none, (.fields #[]), #[]⟩),
  (44, ⟨(.type "tuple"), none, (.seq #[(.str (Str.ofString "code") 276)] 0), #[]⟩),
  (45, ⟨(.type "tuple"), none, (.seq #[] 0), #[]⟩),
  (47, ⟨(.type "code"), none, (.fields #[(.str (Str.ofString "in_table_b1") 273), (.str (Str.ofString "in_table_b1") 274), (.str (Str.ofString "/claim/cut.py") 275), (.int 42 0), (.int 1 0), (.int 0 0), (.int 0 0), (.int 3 0), (.ref 42), (.bool true), (.int 181 0), (.ref 43), .none, (.ref 44), (.ref 45), (.ref 46), (.int 277 0), (.int 42 0), (.str (Str.ofString "/claim/cut.py") 278)]), #[]⟩),
  (48, ⟨(.type "function"), none, (.func (fnD 6 (.ref 47) .none (.str (Str.ofString "cpy313.stringprep") 211) 3 .none 0)), #[]⟩),
  (49, ⟨(.type "dict"), none, (.dict b3ents.toArray 650), #[]⟩),
  (88, ⟨(.type "tuple"), none, (.seq #[] 0), #[]⟩),
  (89, ⟨.none, none, (.fields #[]), #[]⟩),
  (90, ⟨(.type "tuple"), none, (.seq #[(.str (Str.ofString "code") 2234), (.str (Str.ofString "r") 2235)] 0), #[]⟩),
  (91, ⟨(.type "tuple"), none, (.seq #[] 0), #[]⟩),
  (93, ⟨(.type "code"), none, (.fields #[(.str (Str.ofString "map_table_b3") 2231), (.str (Str.ofString "map_table_b3") 2232), (.str (Str.ofString "/claim/cut.py") 2233), (.int 45 0), (.int 1 0), (.int 0 0), (.int 0 0), (.int 3 0), (.ref 88), (.bool true), (.int 181 0), (.ref 89), .none, (.ref 90), (.ref 91), (.ref 92), (.int 2236 0), (.int 45 0), (.str (Str.ofString "/claim/cut.py") 2237)]), #[]⟩),
  (94, ⟨(.type "function"), none, (.func (fnD 8 (.ref 93) .none (.str (Str.ofString "cpy313.stringprep") 211) 3 .none 0)), #[]⟩),
  (95, ⟨(.type "tuple"), none, (.seq #[] 0), #[]⟩),
  (96, ⟨.none, none, (.fields #[]), #[]⟩),
  (98, ⟨(.type "code"), none, (.fields #[(.str (Str.ofString "_law_text") 2241), (.str (Str.ofString "_law_text") 2242), (.str (Str.ofString "/claim/cut.py") 2243), (.int 51 0), (.int 1 0), (.int 0 0), (.int 0 0), (.int 3 0), (.ref 95), (.bool true), (.int 181 0), (.ref 96), .none, .none, .none, (.ref 97), (.int 2244 0), (.int 51 0), (.str (Str.ofString "/claim/cut.py") 2245)]), #[]⟩),
  (99, ⟨(.type "function"), none, (.func (fnD 10 (.ref 98) .none (.str (Str.ofString "law_pe0222_01") 2239) 3 .none 0)), #[]⟩),
  (100, ⟨(.type "tuple"), none, (.seq #[] 0), #[]⟩),
  (101, ⟨.none, none, (.fields #[]), #[]⟩),
  (102, ⟨(.type "tuple"), none, (.seq #[] 0), #[]⟩),
  (103, ⟨(.type "tuple"), none, (.seq #[] 0), #[]⟩),
  (105, ⟨(.type "code"), none, (.fields #[(.str (Str.ofString "_law_moves") 2247), (.str (Str.ofString "_law_moves") 2248), (.str (Str.ofString "/claim/cut.py") 2249), (.int 54 0), (.int 0 0), (.int 0 0), (.int 0 0), (.int 3 0), (.ref 100), (.bool true), (.int 181 0), (.ref 101), .none, (.ref 102), (.ref 103), (.ref 104), (.int 2250 0), (.int 54 0), (.str (Str.ofString "/claim/cut.py") 2251)]), #[]⟩),
  (106, ⟨(.type "function"), none, (.func (fnD 11 (.ref 105) .none (.str (Str.ofString "law_pe0222_01") 2239) 3 .none 0)), #[]⟩),
  (107, ⟨(.type "tuple"), none, (.seq #[] 0), #[]⟩),
  (108, ⟨.none, none, (.fields #[]), #[]⟩),
  (110, ⟨(.type "code"), none, (.fields #[(.str (Str.ofString "_law_joined") 2253), (.str (Str.ofString "_law_joined") 2254), (.str (Str.ofString "/claim/cut.py") 2255), (.int 56 0), (.int 2 0), (.int 0 0), (.int 0 0), (.int 3 0), (.ref 107), (.bool true), (.int 181 0), (.ref 108), .none, .none, .none, (.ref 109), (.int 2256 0), (.int 56 0), (.str (Str.ofString "/claim/cut.py") 2257)]), #[]⟩),
  (111, ⟨(.type "function"), none, (.func (fnD 12 (.ref 110) .none (.str (Str.ofString "law_pe0222_01") 2239) 3 .none 0)), #[]⟩),
  (112, ⟨(.type "tuple"), none, (.seq #[] 0), #[]⟩),
  (114, ⟨(.type "tuple"), none, (.seq #[(.str (Str.ofString "row") 2262), (.str (Str.ofString "sign") 2263)] 0), #[]⟩),
  (115, ⟨(.type "tuple"), none, (.seq #[(.str (Str.ofString "moves") 2264)] 0), #[]⟩),
  (117, ⟨(.type "code"), none, (.fields #[(.str (Str.ofString "_law_deed") 2259), (.str (Str.ofString "_law_deed") 2260), (.str (Str.ofString "/claim/cut.py") 2261), (.int 58 0), (.int 2 0), (.int 0 0), (.int 0 0), (.int 3 0), (.ref 112), (.bool true), (.int 181 0), (.ref 113), .none, (.ref 114), (.ref 115), (.ref 116), (.int 2265 0), (.int 58 0), (.str (Str.ofString "/claim/cut.py") 2266)]), #[]⟩),
  (118, ⟨(.type "function"), none, (.func (fnD 13 (.ref 117) .none (.str (Str.ofString "law_pe0222_01") 2239) 3 .none 0)), #[]⟩),
  (119, ⟨(.type "tuple"), none, (.seq #[] 0), #[]⟩),
  (120, ⟨.none, none, (.fields #[]), #[]⟩),
  (121, ⟨(.type "tuple"), none, (.seq #[(.str (Str.ofString "one") 2271), (.str (Str.ofString "other") 2272), (.str (Str.ofString "place") 2273)] 0), #[]⟩),
  (122, ⟨(.type "tuple"), none, (.seq #[] 0), #[]⟩),
  (124, ⟨(.type "code"), none, (.fields #[(.str (Str.ofString "_law_compared") 2268), (.str (Str.ofString "_law_compared") 2269), (.str (Str.ofString "/claim/cut.py") 2270), (.int 63 0), (.int 2 0), (.int 0 0), (.int 0 0), (.int 3 0), (.ref 119), (.bool true), (.int 181 0), (.ref 120), .none, (.ref 121), (.ref 122), (.ref 123), (.int 2274 0), (.int 63 0), (.str (Str.ofString "/claim/cut.py") 2275)]), #[]⟩),
  (125, ⟨(.type "function"), none, (.func (fnD 14 (.ref 124) .none (.str (Str.ofString "law_pe0222_01") 2239) 3 .none 0)), #[]⟩),
  (126, ⟨(.type "tuple"), none, (.seq #[] 0), #[]⟩),
  (129, ⟨(.type "code"), none, (.fields #[(.str (Str.ofString "_law_told") 2277), (.str (Str.ofString "_law_told") 2278), (.str (Str.ofString "/claim/cut.py") 2279), (.int 68 0), (.int 1 0), (.int 0 0), (.int 0 0), (.int 3 0), (.ref 126), (.bool true), (.int 181 0), (.ref 127), .none, .none, .none, (.ref 128), (.int 2280 0), (.int 68 0), (.str (Str.ofString "/claim/cut.py") 2281)]), #[]⟩),
  (130, ⟨(.type "function"), none, (.func (fnD 15 (.ref 129) .none (.str (Str.ofString "law_pe0222_01") 2239) 3 .none 0)), #[]⟩),
  (131, ⟨(.type "tuple"), none, (.seq #[] 0), #[]⟩),
  (132, ⟨.none, none, (.fields #[]), #[]⟩),
  (134, ⟨(.type "code"), none, (.fields #[(.str (Str.ofString "_law_due") 2283), (.str (Str.ofString "_law_due") 2284), (.str (Str.ofString "/claim/cut.py") 2285), (.int 84 0), (.int 1 0), (.int 0 0), (.int 0 0), (.int 3 0), (.ref 131), (.bool true), (.int 181 0), (.ref 132), .none, .none, .none, (.ref 133), (.int 2286 0), (.int 84 0), (.str (Str.ofString "/claim/cut.py") 2287)]), #[]⟩),
  (135, ⟨(.type "function"), none, (.func (fnD 16 (.ref 134) .none (.str (Str.ofString "law_pe0222_01") 2239) 3 .none 0)), #[]⟩),
  (136, ⟨(.type "tuple"), none, (.seq #[] 0), #[]⟩),
  (137, ⟨.none, none, (.fields #[]), #[]⟩),
  (138, ⟨(.type "tuple"), none, (.seq #[(.str (Str.ofString "script") 2292), (.str (Str.ofString "numbers") 2293)] 0), #[]⟩),
  (139, ⟨(.type "tuple"), none, (.seq #[] 0), #[]⟩),
  (141, ⟨(.type "code"), none, (.fields #[(.str (Str.ofString "law") 2289), (.str (Str.ofString "law") 2290), (.str (Str.ofString "/claim/cut.py") 2291), (.int 105 0), (.int 1 0), (.int 0 0), (.int 0 0), (.int 3 0), (.ref 136), (.bool true), (.int 181 0), (.ref 137), .none, (.ref 138), (.ref 139), (.ref 140), (.int 2294 0), (.int 105 0), (.str (Str.ofString "/claim/cut.py") 2295)]), #[]⟩),
  (142, ⟨(.type "function"), none, (.func (fnD 17 (.ref 141) .none (.str (Str.ofString "law_pe0222_01") 2239) 3 .none 0)), #[]⟩)]
noncomputable def tabs3 : List Addr := [16, 113, 127]
end Mine
end

section
open PySem PySem.W PySem.Calls PyProof.Rows
set_option maxRecDepth 100000
set_option linter.unusedVariables false
namespace Mine
noncomputable def ob_b_11 (P : Params) : Obj := ⟨(.type "tuple"), none, (.seq #[] 0), #[]⟩
noncomputable def ob_b_12 (P : Params) : Obj := ⟨.none, none, (.fields #[]), #[]⟩
noncomputable def ob_b_13 (P : Params) : Obj := ⟨(.type "code"), none, (.fields #[(.str (Str.ofString "<module>") 182), (.str (Str.ofString "<module>") 183), (.str (Str.ofString "/claim/cut.py") 184), (.int 1 0), (.int 0 0), (.int 0 0), (.int 0 0), (.int 0 0), (.ref 11), (.bool false), (.int 181 0), (.ref 12), .none, .none, .none, .none, (.int 185 0), (.int 1 0), (.str (Str.ofString "/claim/cut.py") 186)]), #[]⟩
noncomputable def ob_b_14 (P : Params) : Obj := ⟨(.type "frame"), none, .plain, #[some (.ref 13), some (.ref 3), some (.ref 3), none, some (.str (Str.ofString "__main__") 164), none, some (.ref 0)]⟩
noncomputable def hp_b (P : Params) : Heap := ⟨#[boot_o_0 P, boot_o_1 P, boot_o_2 P, boot_o_3 P, boot_o_4 P, boot_o_5 P, boot_o_6 P, boot_o_7 P, boot_o_8 P, boot_o_9 P, boot_o_10 P, ob_b_11 P, ob_b_12 P, ob_b_13 P, ob_b_14 P], {}⟩
noncomputable def ob_0_3 (P : Params) : Obj := ⟨(.type "dict"), none, (.dict #[⟨PyData.keyHash P (Str.ofString "__name__"), .str (Str.ofString "__name__") 165, (.str (Str.ofString "cpy313.functools") 187)⟩, ⟨PyData.keyHash P (Str.ofString "__doc__"), .str (Str.ofString "__doc__") 166, .none⟩, ⟨PyData.keyHash P (Str.ofString "__package__"), .str (Str.ofString "__package__") 167, .none⟩, ⟨PyData.keyHash P (Str.ofString "__loader__"), .str (Str.ofString "__loader__") 168, (.builtin "__main__.__loader__#opaque")⟩, ⟨PyData.keyHash P (Str.ofString "__spec__"), .str (Str.ofString "__spec__") 169, .none⟩, ⟨PyData.keyHash P (Str.ofString "__annotations__"), .str (Str.ofString "__annotations__") 170, (.ref 6)⟩, ⟨PyData.keyHash P (Str.ofString "__builtins__"), .str (Str.ofString "__builtins__") 171, (.ref 4)⟩, ⟨PyData.keyHash P (Str.ofString "__file__"), .str (Str.ofString "__file__") 173, (.str (Str.ofString "/claim/cut.py") 172)⟩, ⟨PyData.keyHash P (Str.ofString "__cached__"), .str (Str.ofString "__cached__") 174, .none⟩] 9), #[]⟩
noncomputable def hp_0 (P : Params) : Heap := ⟨#[boot_o_0 P, boot_o_1 P, boot_o_2 P, ob_0_3 P, boot_o_4 P, boot_o_5 P, boot_o_6 P, boot_o_7 P, boot_o_8 P, boot_o_9 P, boot_o_10 P, ob_b_11 P, ob_b_12 P, ob_b_13 P, ob_b_14 P], {}⟩
noncomputable def ob_1_3 (P : Params) : Obj := ⟨(.type "dict"), none, (.dict #[⟨PyData.keyHash P (Str.ofString "__name__"), .str (Str.ofString "__name__") 165, (.str (Str.ofString "cpy313.functools") 187)⟩, ⟨PyData.keyHash P (Str.ofString "__doc__"), .str (Str.ofString "__doc__") 166, .none⟩, ⟨PyData.keyHash P (Str.ofString "__package__"), .str (Str.ofString "__package__") 167, .none⟩, ⟨PyData.keyHash P (Str.ofString "__loader__"), .str (Str.ofString "__loader__") 168, (.builtin "__main__.__loader__#opaque")⟩, ⟨PyData.keyHash P (Str.ofString "__spec__"), .str (Str.ofString "__spec__") 169, .none⟩, ⟨PyData.keyHash P (Str.ofString "__annotations__"), .str (Str.ofString "__annotations__") 170, (.ref 6)⟩, ⟨PyData.keyHash P (Str.ofString "__builtins__"), .str (Str.ofString "__builtins__") 171, (.ref 4)⟩, ⟨PyData.keyHash P (Str.ofString "__file__"), .str (Str.ofString "__file__") 173, (.str (Str.ofString "/claim/cut.py") 172)⟩, ⟨PyData.keyHash P (Str.ofString "__cached__"), .str (Str.ofString "__cached__") 174, .none⟩, ⟨PyData.keyHash P (Str.ofString "cmp_to_key"), .str (Str.ofString "cmp_to_key") 197, (.ref 21)⟩] 10), #[]⟩
noncomputable def ob_1_12 (P : Params) : Obj := ⟨.none, none, (.fields #[(.int 2 0), (.int 0 0), (.ref 20)]), #[]⟩
noncomputable def ob_1_15 (P : Params) : Obj := ⟨(.type "tuple"), none, (.seq #[] 0), #[]⟩
noncomputable def ob_1_16 (P : Params) : Obj := ⟨.none, none, (.fields #[]), #[]⟩
noncomputable def ob_1_17 (P : Params) : Obj := ⟨(.type "tuple"), none, (.seq #[(.str (Str.ofString "mycmp") 192), (.str (Str.ofString "K") 193)] 0), #[]⟩
noncomputable def ob_1_18 (P : Params) : Obj := ⟨(.type "tuple"), none, (.seq #[(.str (Str.ofString "mycmp") 194)] 0), #[]⟩
noncomputable def ob_1_19 (P : Params) : Obj := ⟨.none, none, (.func (fnD 1 .none .none .none 0 .none 0)), #[]⟩
noncomputable def ob_1_20 (P : Params) : Obj := ⟨(.type "code"), none, (.fields #[(.str (Str.ofString "cmp_to_key") 189), (.str (Str.ofString "cmp_to_key") 190), (.str (Str.ofString "/claim/cut.py") 191), (.int 2 0), (.int 1 0), (.int 0 0), (.int 0 0), (.int 3 0), (.ref 15), (.bool true), (.int 181 0), (.ref 16), .none, (.ref 17), (.ref 18), (.ref 19), (.int 195 0), (.int 2 0), (.str (Str.ofString "/claim/cut.py") 196)]), #[]⟩
noncomputable def ob_1_21 (P : Params) : Obj := ⟨(.type "function"), none, (.func (fnD 1 (.ref 20) .none (.str (Str.ofString "cpy313.functools") 187) 3 .none 0)), #[]⟩
noncomputable def hp_1 (P : Params) : Heap := ⟨#[boot_o_0 P, boot_o_1 P, boot_o_2 P, ob_1_3 P, boot_o_4 P, boot_o_5 P, boot_o_6 P, boot_o_7 P, boot_o_8 P, boot_o_9 P, boot_o_10 P, ob_b_11 P, ob_1_12 P, ob_b_13 P, ob_b_14 P, ob_1_15 P, ob_1_16 P, ob_1_17 P, ob_1_18 P, ob_1_19 P, ob_1_20 P, ob_1_21 P], {}⟩
noncomputable def ob_2_3 (P : Params) : Obj := ⟨(.type "dict"), none, (.dict #[⟨PyData.keyHash P (Str.ofString "__name__"), .str (Str.ofString "__name__") 165, (.str (Str.ofString "cpy313.functools") 187)⟩, ⟨PyData.keyHash P (Str.ofString "__doc__"), .str (Str.ofString "__doc__") 166, .none⟩, ⟨PyData.keyHash P (Str.ofString "__package__"), .str (Str.ofString "__package__") 167, .none⟩, ⟨PyData.keyHash P (Str.ofString "__loader__"), .str (Str.ofString "__loader__") 168, (.builtin "__main__.__loader__#opaque")⟩, ⟨PyData.keyHash P (Str.ofString "__spec__"), .str (Str.ofString "__spec__") 169, .none⟩, ⟨PyData.keyHash P (Str.ofString "__annotations__"), .str (Str.ofString "__annotations__") 170, (.ref 6)⟩, ⟨PyData.keyHash P (Str.ofString "__builtins__"), .str (Str.ofString "__builtins__") 171, (.ref 4)⟩, ⟨PyData.keyHash P (Str.ofString "__file__"), .str (Str.ofString "__file__") 173, (.str (Str.ofString "/claim/cut.py") 172)⟩, ⟨PyData.keyHash P (Str.ofString "__cached__"), .str (Str.ofString "__cached__") 174, .none⟩, ⟨PyData.keyHash P (Str.ofString "cmp_to_key"), .str (Str.ofString "cmp_to_key") 197, (.ref 21)⟩, ⟨PyData.keyHash P (Str.ofString "_initial_missing"), .str (Str.ofString "_initial_missing") 198, (.ref 22)⟩] 11), #[]⟩
noncomputable def ob_2_22 (P : Params) : Obj := ⟨(.type "object"), none, .plain, #[]⟩
noncomputable def hp_2 (P : Params) : Heap := ⟨#[boot_o_0 P, boot_o_1 P, boot_o_2 P, ob_2_3 P, boot_o_4 P, boot_o_5 P, boot_o_6 P, boot_o_7 P, boot_o_8 P, boot_o_9 P, boot_o_10 P, ob_b_11 P, ob_1_12 P, ob_b_13 P, ob_b_14 P, ob_1_15 P, ob_1_16 P, ob_1_17 P, ob_1_18 P, ob_1_19 P, ob_1_20 P, ob_1_21 P, ob_2_22 P], {}⟩
noncomputable def ob_3_3 (P : Params) : Obj := ⟨(.type "dict"), none, (.dict #[⟨PyData.keyHash P (Str.ofString "__name__"), .str (Str.ofString "__name__") 165, (.str (Str.ofString "cpy313.functools") 187)⟩, ⟨PyData.keyHash P (Str.ofString "__doc__"), .str (Str.ofString "__doc__") 166, .none⟩, ⟨PyData.keyHash P (Str.ofString "__package__"), .str (Str.ofString "__package__") 167, .none⟩, ⟨PyData.keyHash P (Str.ofString "__loader__"), .str (Str.ofString "__loader__") 168, (.builtin "__main__.__loader__#opaque")⟩, ⟨PyData.keyHash P (Str.ofString "__spec__"), .str (Str.ofString "__spec__") 169, .none⟩, ⟨PyData.keyHash P (Str.ofString "__annotations__"), .str (Str.ofString "__annotations__") 170, (.ref 6)⟩, ⟨PyData.keyHash P (Str.ofString "__builtins__"), .str (Str.ofString "__builtins__") 171, (.ref 4)⟩, ⟨PyData.keyHash P (Str.ofString "__file__"), .str (Str.ofString "__file__") 173, (.str (Str.ofString "/claim/cut.py") 172)⟩, ⟨PyData.keyHash P (Str.ofString "__cached__"), .str (Str.ofString "__cached__") 174, .none⟩, ⟨PyData.keyHash P (Str.ofString "cmp_to_key"), .str (Str.ofString "cmp_to_key") 197, (.ref 21)⟩, ⟨PyData.keyHash P (Str.ofString "_initial_missing"), .str (Str.ofString "_initial_missing") 198, (.ref 22)⟩, ⟨PyData.keyHash P (Str.ofString "reduce"), .str (Str.ofString "reduce") 210, (.ref 30)⟩] 12), #[]⟩
noncomputable def ob_3_12 (P : Params) : Obj := ⟨.none, none, (.fields #[(.int 2 0), (.int 0 0), (.ref 20), (.int 28 0), (.int 0 0), (.ref 29)]), #[]⟩
noncomputable def ob_3_23 (P : Params) : Obj := ⟨(.type "tuple"), none, (.seq #[(.ref 22)] 0), #[]⟩
noncomputable def ob_3_24 (P : Params) : Obj := ⟨(.type "tuple"), none, (.seq #[] 0), #[]⟩
noncomputable def ob_3_25 (P : Params) : Obj := ⟨.none, none, (.fields #[]), #[]⟩
noncomputable def ob_3_26 (P : Params) : Obj := ⟨(.type "tuple"), none, (.seq #[(.str (Str.ofString "function") 202), (.str (Str.ofString "sequence") 203), (.str (Str.ofString "initial") 204), (.str (Str.ofString "it") 205), (.str (Str.ofString "value") 206), (.str (Str.ofString "element") 207)] 0), #[]⟩
noncomputable def ob_3_27 (P : Params) : Obj := ⟨(.type "tuple"), none, (.seq #[] 0), #[]⟩
noncomputable def ob_3_28 (P : Params) : Obj := ⟨.none, none, (.func (fnD 3 .none .none .none 0 .none 0)), #[]⟩
noncomputable def ob_3_29 (P : Params) : Obj := ⟨(.type "code"), none, (.fields #[(.str (Str.ofString "reduce") 199), (.str (Str.ofString "reduce") 200), (.str (Str.ofString "/claim/cut.py") 201), (.int 28 0), (.int 3 0), (.int 0 0), (.int 0 0), (.int 3 0), (.ref 24), (.bool true), (.int 181 0), (.ref 25), .none, (.ref 26), (.ref 27), (.ref 28), (.int 208 0), (.int 28 0), (.str (Str.ofString "/claim/cut.py") 209)]), #[]⟩
noncomputable def ob_3_30 (P : Params) : Obj := ⟨(.type "function"), none, (.func (fnD 3 (.ref 29) (.ref 23) (.str (Str.ofString "cpy313.functools") 187) 3 .none 0)), #[]⟩
noncomputable def hp_3 (P : Params) : Heap := ⟨#[boot_o_0 P, boot_o_1 P, boot_o_2 P, ob_3_3 P, boot_o_4 P, boot_o_5 P, boot_o_6 P, boot_o_7 P, boot_o_8 P, boot_o_9 P, boot_o_10 P, ob_b_11 P, ob_3_12 P, ob_b_13 P, ob_b_14 P, ob_1_15 P, ob_1_16 P, ob_1_17 P, ob_1_18 P, ob_1_19 P, ob_1_20 P, ob_1_21 P, ob_2_22 P, ob_3_23 P, ob_3_24 P, ob_3_25 P, ob_3_26 P, ob_3_27 P, ob_3_28 P, ob_3_29 P, ob_3_30 P], {}⟩
noncomputable def ob_4_3 (P : Params) : Obj := ⟨(.type "dict"), none, (.dict #[⟨PyData.keyHash P (Str.ofString "__name__"), .str (Str.ofString "__name__") 165, (.str (Str.ofString "cpy313.stringprep") 211)⟩, ⟨PyData.keyHash P (Str.ofString "__doc__"), .str (Str.ofString "__doc__") 166, .none⟩, ⟨PyData.keyHash P (Str.ofString "__package__"), .str (Str.ofString "__package__") 167, .none⟩, ⟨PyData.keyHash P (Str.ofString "__loader__"), .str (Str.ofString "__loader__") 168, (.builtin "__main__.__loader__#opaque")⟩, ⟨PyData.keyHash P (Str.ofString "__spec__"), .str (Str.ofString "__spec__") 169, .none⟩, ⟨PyData.keyHash P (Str.ofString "__annotations__"), .str (Str.ofString "__annotations__") 170, (.ref 6)⟩, ⟨PyData.keyHash P (Str.ofString "__builtins__"), .str (Str.ofString "__builtins__") 171, (.ref 4)⟩, ⟨PyData.keyHash P (Str.ofString "__file__"), .str (Str.ofString "__file__") 173, (.str (Str.ofString "/claim/cut.py") 172)⟩, ⟨PyData.keyHash P (Str.ofString "__cached__"), .str (Str.ofString "__cached__") 174, .none⟩, ⟨PyData.keyHash P (Str.ofString "cmp_to_key"), .str (Str.ofString "cmp_to_key") 197, (.ref 21)⟩, ⟨PyData.keyHash P (Str.ofString "_initial_missing"), .str (Str.ofString "_initial_missing") 198, (.ref 22)⟩, ⟨PyData.keyHash P (Str.ofString "reduce"), .str (Str.ofString "reduce") 210, (.ref 30)⟩] 12), #[]⟩
noncomputable def hp_4 (P : Params) : Heap := ⟨#[boot_o_0 P, boot_o_1 P, boot_o_2 P, ob_4_3 P, boot_o_4 P, boot_o_5 P, boot_o_6 P, boot_o_7 P, boot_o_8 P, boot_o_9 P, boot_o_10 P, ob_b_11 P, ob_3_12 P, ob_b_13 P, ob_b_14 P, ob_1_15 P, ob_1_16 P, ob_1_17 P, ob_1_18 P, ob_1_19 P, ob_1_20 P, ob_1_21 P, ob_2_22 P, ob_3_23 P, ob_3_24 P, ob_3_25 P, ob_3_26 P, ob_3_27 P, ob_3_28 P, ob_3_29 P, ob_3_30 P], {}⟩
noncomputable def ob_5_3 (P : Params) : Obj := ⟨(.type "dict"), none, (.dict #[⟨PyData.keyHash P (Str.ofString "__name__"), .str (Str.ofString "__name__") 165, (.str (Str.ofString "cpy313.stringprep") 211)⟩, ⟨PyData.keyHash P (Str.ofString "__doc__"), .str (Str.ofString "__doc__") 166, .none⟩, ⟨PyData.keyHash P (Str.ofString "__package__"), .str (Str.ofString "__package__") 167, .none⟩, ⟨PyData.keyHash P (Str.ofString "__loader__"), .str (Str.ofString "__loader__") 168, (.builtin "__main__.__loader__#opaque")⟩, ⟨PyData.keyHash P (Str.ofString "__spec__"), .str (Str.ofString "__spec__") 169, .none⟩, ⟨PyData.keyHash P (Str.ofString "__annotations__"), .str (Str.ofString "__annotations__") 170, (.ref 6)⟩, ⟨PyData.keyHash P (Str.ofString "__builtins__"), .str (Str.ofString "__builtins__") 171, (.ref 4)⟩, ⟨PyData.keyHash P (Str.ofString "__file__"), .str (Str.ofString "__file__") 173, (.str (Str.ofString "/claim/cut.py") 172)⟩, ⟨PyData.keyHash P (Str.ofString "__cached__"), .str (Str.ofString "__cached__") 174, .none⟩, ⟨PyData.keyHash P (Str.ofString "cmp_to_key"), .str (Str.ofString "cmp_to_key") 197, (.ref 21)⟩, ⟨PyData.keyHash P (Str.ofString "_initial_missing"), .str (Str.ofString "_initial_missing") 198, (.ref 22)⟩, ⟨PyData.keyHash P (Str.ofString "reduce"), .str (Str.ofString "reduce") 210, (.ref 30)⟩, ⟨PyData.keyHash P (Str.ofString "b1_set"), .str (Str.ofString "b1_set") 272, (.ref 38)⟩] 13), #[]⟩
noncomputable def ob_5_31 (P : Params) : Obj := ⟨(.type "list"), none, (.seq #[(.int 173 213), (.int 847 214), (.int 6150 215), (.int 6155 216), (.int 6156 217), (.int 6157 218), (.int 8203 219), (.int 8204 220), (.int 8205 221), (.int 8288 222), (.int 65279 223)] 0), #[]⟩
noncomputable def ob_5_32 (P : Params) : Obj := ⟨(.type "range"), none, (.fields #[(.int 65024 224), (.int 65040 225), (.int 1 226)]), #[]⟩
noncomputable def ob_5_33 (P : Params) : Obj := ⟨(.type "list"), none, (.seq #[(.int 65024 229), (.int 65025 230), (.int 65026 231), (.int 65027 232), (.int 65028 233), (.int 65029 234), (.int 65030 235), (.int 65031 236), (.int 65032 237), (.int 65033 238), (.int 65034 239), (.int 65035 240), (.int 65036 241), (.int 65037 242), (.int 65038 243), (.int 65039 244)] 18), #[]⟩
noncomputable def ob_5_34 (P : Params) : Obj := ⟨(.type "range_iterator"), none, (.fields #[(.int 65040 0), (.int 0 0), (.int 1 0)]), #[]⟩
noncomputable def ob_5_35 (P : Params) : Obj := ⟨(.type "tuple"), none, (.seq #[] 0), #[]⟩
noncomputable def ob_5_36 (P : Params) : Obj := ⟨(.type "StopIteration"), none, (.fields #[(.ref 35), .none, .none, .none, (.bool false), .none]), #[]⟩
noncomputable def ob_5_37 (P : Params) : Obj := ⟨(.type "list"), none, (.seq #[(.int 173 213), (.int 847 214), (.int 6150 215), (.int 6155 216), (.int 6156 217), (.int 6157 218), (.int 8203 219), (.int 8204 220), (.int 8205 221), (.int 8288 222), (.int 65279 223), (.int 65024 229), (.int 65025 230), (.int 65026 231), (.int 65027 232), (.int 65028 233), (.int 65029 234), (.int 65030 235), (.int 65031 236), (.int 65032 237), (.int 65033 238), (.int 65034 239), (.int 65035 240), (.int 65036 241), (.int 65037 242), (.int 65038 243), (.int 65039 244)] 0), #[]⟩
noncomputable def ob_5_38 (P : Params) : Obj := ⟨(.type "set"), none, (.set #[(65024, (.int 65024 229)), (65025, (.int 65025 230)), (65026, (.int 65026 231)), (65027, (.int 65027 232)), (65028, (.int 65028 233)), (65029, (.int 65029 234)), (6150, (.int 6150 215)), (65030, (.int 65030 235)), (65031, (.int 65031 236)), (65032, (.int 65032 237)), (65033, (.int 65033 238)), (6155, (.int 6155 216)), (6156, (.int 6156 217)), (6157, (.int 6157 218)), (8203, (.int 8203 219)), (8204, (.int 8204 220)), (8205, (.int 8205 221)), (65034, (.int 65034 239)), (65035, (.int 65035 240)), (65036, (.int 65036 241)), (65037, (.int 65037 242)), (65038, (.int 65038 243)), (65039, (.int 65039 244)), (173, (.int 173 213)), (847, (.int 847 214)), (8288, (.int 8288 222)), (65279, (.int 65279 223))] 29 ⟨127, #[0, 1, 2, 3, 4, 5, 6, 7, 8, 9, 10, 11, 12, 13, 14, 15, 16, 17, 18, 19, 20, 21, 22, 45, 79, 96, 127], #[], 0, !P.followText "set-order", 2, true⟩), #[]⟩
noncomputable def ob_5_39 (P : Params) : Obj := ⟨(.type "list_iterator"), none, (.fields #[.none, (.int 27 0)]), #[]⟩
noncomputable def ob_5_40 (P : Params) : Obj := ⟨(.type "tuple"), none, (.seq #[] 0), #[]⟩
noncomputable def ob_5_41 (P : Params) : Obj := ⟨(.type "StopIteration"), none, (.fields #[(.ref 40), .none, .none, .none, (.bool false), .none]), #[]⟩
noncomputable def hp_5 (P : Params) : Heap := ⟨#[boot_o_0 P, boot_o_1 P, boot_o_2 P, ob_5_3 P, boot_o_4 P, boot_o_5 P, boot_o_6 P, boot_o_7 P, boot_o_8 P, boot_o_9 P, boot_o_10 P, ob_b_11 P, ob_3_12 P, ob_b_13 P, ob_b_14 P, ob_1_15 P, ob_1_16 P, ob_1_17 P, ob_1_18 P, ob_1_19 P, ob_1_20 P, ob_1_21 P, ob_2_22 P, ob_3_23 P, ob_3_24 P, ob_3_25 P, ob_3_26 P, ob_3_27 P, ob_3_28 P, ob_3_29 P, ob_3_30 P, ob_5_31 P, ob_5_32 P, ob_5_33 P, ob_5_34 P, ob_5_35 P, ob_5_36 P, ob_5_37 P, ob_5_38 P, ob_5_39 P, ob_5_40 P, ob_5_41 P], {}⟩
noncomputable def ob_6_3 (P : Params) : Obj := ⟨(.type "dict"), none, (.dict #[⟨PyData.keyHash P (Str.ofString "__name__"), .str (Str.ofString "__name__") 165, (.str (Str.ofString "cpy313.stringprep") 211)⟩, ⟨PyData.keyHash P (Str.ofString "__doc__"), .str (Str.ofString "__doc__") 166, .none⟩, ⟨PyData.keyHash P (Str.ofString "__package__"), .str (Str.ofString "__package__") 167, .none⟩, ⟨PyData.keyHash P (Str.ofString "__loader__"), .str (Str.ofString "__loader__") 168, (.builtin "__main__.__loader__#opaque")⟩, ⟨PyData.keyHash P (Str.ofString "__spec__"), .str (Str.ofString "__spec__") 169, .none⟩, ⟨PyData.keyHash P (Str.ofString "__annotations__"), .str (Str.ofString "__annotations__") 170, (.ref 6)⟩, ⟨PyData.keyHash P (Str.ofString "__builtins__"), .str (Str.ofString "__builtins__") 171, (.ref 4)⟩, ⟨PyData.keyHash P (Str.ofString "__file__"), .str (Str.ofString "__file__") 173, (.str (Str.ofString "/claim/cut.py") 172)⟩, ⟨PyData.keyHash P (Str.ofString "__cached__"), .str (Str.ofString "__cached__") 174, .none⟩, ⟨PyData.keyHash P (Str.ofString "cmp_to_key"), .str (Str.ofString "cmp_to_key") 197, (.ref 21)⟩, ⟨PyData.keyHash P (Str.ofString "_initial_missing"), .str (Str.ofString "_initial_missing") 198, (.ref 22)⟩, ⟨PyData.keyHash P (Str.ofString "reduce"), .str (Str.ofString "reduce") 210, (.ref 30)⟩, ⟨PyData.keyHash P (Str.ofString "b1_set"), .str (Str.ofString "b1_set") 272, (.ref 38)⟩, ⟨PyData.keyHash P (Str.ofString "in_table_b1"), .str (Str.ofString "in_table_b1") 279, (.ref 48)⟩] 14), #[]⟩
noncomputable def ob_6_12 (P : Params) : Obj := ⟨.none, none, (.fields #[(.int 2 0), (.int 0 0), (.ref 20), (.int 28 0), (.int 0 0), (.ref 29), (.int 42 0), (.int 0 0), (.ref 47)]), #[]⟩
noncomputable def ob_6_42 (P : Params) : Obj := ⟨(.type "tuple"), none, (.seq #[] 0), #[]⟩
noncomputable def ob_6_43 (P : Params) : Obj := ⟨.none, none, (.fields #[]), #[]⟩
noncomputable def ob_6_44 (P : Params) : Obj := ⟨(.type "tuple"), none, (.seq #[(.str (Str.ofString "code") 276)] 0), #[]⟩
noncomputable def ob_6_45 (P : Params) : Obj := ⟨(.type "tuple"), none, (.seq #[] 0), #[]⟩
noncomputable def ob_6_46 (P : Params) : Obj := ⟨.none, none, (.func (fnD 6 .none .none .none 0 .none 0)), #[]⟩
noncomputable def ob_6_47 (P : Params) : Obj := ⟨(.type "code"), none, (.fields #[(.str (Str.ofString "in_table_b1") 273), (.str (Str.ofString "in_table_b1") 274), (.str (Str.ofString "/claim/cut.py") 275), (.int 42 0), (.int 1 0), (.int 0 0), (.int 0 0), (.int 3 0), (.ref 42), (.bool true), (.int 181 0), (.ref 43), .none, (.ref 44), (.ref 45), (.ref 46), (.int 277 0), (.int 42 0), (.str (Str.ofString "/claim/cut.py") 278)]), #[]⟩
noncomputable def ob_6_48 (P : Params) : Obj := ⟨(.type "function"), none, (.func (fnD 6 (.ref 47) .none (.str (Str.ofString "cpy313.stringprep") 211) 3 .none 0)), #[]⟩
noncomputable def hp_6 (P : Params) : Heap := ⟨#[boot_o_0 P, boot_o_1 P, boot_o_2 P, ob_6_3 P, boot_o_4 P, boot_o_5 P, boot_o_6 P, boot_o_7 P, boot_o_8 P, boot_o_9 P, boot_o_10 P, ob_b_11 P, ob_6_12 P, ob_b_13 P, ob_b_14 P, ob_1_15 P, ob_1_16 P, ob_1_17 P, ob_1_18 P, ob_1_19 P, ob_1_20 P, ob_1_21 P, ob_2_22 P, ob_3_23 P, ob_3_24 P, ob_3_25 P, ob_3_26 P, ob_3_27 P, ob_3_28 P, ob_3_29 P, ob_3_30 P, ob_5_31 P, ob_5_32 P, ob_5_33 P, ob_5_34 P, ob_5_35 P, ob_5_36 P, ob_5_37 P, ob_5_38 P, ob_5_39 P, ob_5_40 P, ob_5_41 P, ob_6_42 P, ob_6_43 P, ob_6_44 P, ob_6_45 P, ob_6_46 P, ob_6_47 P, ob_6_48 P], {}⟩
noncomputable def ob_7_3 (P : Params) : Obj := ⟨(.type "dict"), none, (.dict #[⟨PyData.keyHash P (Str.ofString "__name__"), .str (Str.ofString "__name__") 165, (.str (Str.ofString "cpy313.stringprep") 211)⟩, ⟨PyData.keyHash P (Str.ofString "__doc__"), .str (Str.ofString "__doc__") 166, .none⟩, ⟨PyData.keyHash P (Str.ofString "__package__"), .str (Str.ofString "__package__") 167, .none⟩, ⟨PyData.keyHash P (Str.ofString "__loader__"), .str (Str.ofString "__loader__") 168, (.builtin "__main__.__loader__#opaque")⟩, ⟨PyData.keyHash P (Str.ofString "__spec__"), .str (Str.ofString "__spec__") 169, .none⟩, ⟨PyData.keyHash P (Str.ofString "__annotations__"), .str (Str.ofString "__annotations__") 170, (.ref 6)⟩, ⟨PyData.keyHash P (Str.ofString "__builtins__"), .str (Str.ofString "__builtins__") 171, (.ref 4)⟩, ⟨PyData.keyHash P (Str.ofString "__file__"), .str (Str.ofString "__file__") 173, (.str (Str.ofString "/claim/cut.py") 172)⟩, ⟨PyData.keyHash P (Str.ofString "__cached__"), .str (Str.ofString "__cached__") 174, .none⟩, ⟨PyData.keyHash P (Str.ofString "cmp_to_key"), .str (Str.ofString "cmp_to_key") 197, (.ref 21)⟩, ⟨PyData.keyHash P (Str.ofString "_initial_missing"), .str (Str.ofString "_initial_missing") 198, (.ref 22)⟩, ⟨PyData.keyHash P (Str.ofString "reduce"), .str (Str.ofString "reduce") 210, (.ref 30)⟩, ⟨PyData.keyHash P (Str.ofString "b1_set"), .str (Str.ofString "b1_set") 272, (.ref 38)⟩, ⟨PyData.keyHash P (Str.ofString "in_table_b1"), .str (Str.ofString "in_table_b1") 279, (.ref 48)⟩, ⟨PyData.keyHash P (Str.ofString "b3_exceptions"), .str (Str.ofString "b3_exceptions") 2230, (.ref 49)⟩] 15), #[]⟩
noncomputable def ob_7_49 (P : Params) : Obj := ⟨(.type "dict"), none, (.dict b3ents.toArray 650), #[]⟩
noncomputable def ob_7_50 (P : Params) : Obj := ⟨(.type "dict"), none, (.dict #[⟨982, (.int 982 331), (.str ⟨#[960]⟩ 332)⟩, ⟨1008, (.int 1008 334), (.str ⟨#[954]⟩ 335)⟩, ⟨1009, (.int 1009 337), (.str ⟨#[961]⟩ 338)⟩, ⟨1010, (.int 1010 340), (.str ⟨#[963]⟩ 341)⟩, ⟨1013, (.int 1013 343), (.str ⟨#[949]⟩ 344)⟩, ⟨1415, (.int 1415 346), (.str ⟨#[1381, 1410]⟩ 347)⟩, ⟨7830, (.int 7830 349), (.str ⟨#[104, 817]⟩ 350)⟩, ⟨7831, (.int 7831 352), (.str ⟨#[116, 776]⟩ 353)⟩, ⟨7832, (.int 7832 355), (.str ⟨#[119, 778]⟩ 356)⟩, ⟨7833, (.int 7833 358), (.str ⟨#[121, 778]⟩ 359)⟩, ⟨7834, (.int 7834 361), (.str ⟨#[97, 702]⟩ 362)⟩, ⟨7835, (.int 7835 364), (.str ⟨#[7777]⟩ 365)⟩, ⟨8016, (.int 8016 367), (.str ⟨#[965, 787]⟩ 368)⟩, ⟨8018, (.int 8018 370), (.str ⟨#[965, 787, 768]⟩ 371)⟩, ⟨8020, (.int 8020 373), (.str ⟨#[965, 787, 769]⟩ 374)⟩, ⟨8022, (.int 8022 376), (.str ⟨#[965, 787, 834]⟩ 377)⟩, ⟨8064, (.int 8064 379), (.str ⟨#[7936, 953]⟩ 380)⟩] 17), #[]⟩
noncomputable def ob_7_51 (P : Params) : Obj := ⟨(.type "dict"), none, (.dict #[⟨8065, (.int 8065 382), (.str ⟨#[7937, 953]⟩ 383)⟩, ⟨8066, (.int 8066 385), (.str ⟨#[7938, 953]⟩ 386)⟩, ⟨8067, (.int 8067 388), (.str ⟨#[7939, 953]⟩ 389)⟩, ⟨8068, (.int 8068 391), (.str ⟨#[7940, 953]⟩ 392)⟩, ⟨8069, (.int 8069 394), (.str ⟨#[7941, 953]⟩ 395)⟩, ⟨8070, (.int 8070 397), (.str ⟨#[7942, 953]⟩ 398)⟩, ⟨8071, (.int 8071 400), (.str ⟨#[7943, 953]⟩ 401)⟩, ⟨8072, (.int 8072 403), (.str ⟨#[7936, 953]⟩ 404)⟩, ⟨8073, (.int 8073 406), (.str ⟨#[7937, 953]⟩ 407)⟩, ⟨8074, (.int 8074 409), (.str ⟨#[7938, 953]⟩ 410)⟩, ⟨8075, (.int 8075 412), (.str ⟨#[7939, 953]⟩ 413)⟩, ⟨8076, (.int 8076 415), (.str ⟨#[7940, 953]⟩ 416)⟩, ⟨8077, (.int 8077 418), (.str ⟨#[7941, 953]⟩ 419)⟩, ⟨8078, (.int 8078 421), (.str ⟨#[7942, 953]⟩ 422)⟩, ⟨8079, (.int 8079 424), (.str ⟨#[7943, 953]⟩ 425)⟩, ⟨8080, (.int 8080 427), (.str ⟨#[7968, 953]⟩ 428)⟩, ⟨8081, (.int 8081 430), (.str ⟨#[7969, 953]⟩ 431)⟩] 17), #[]⟩
noncomputable def ob_7_52 (P : Params) : Obj := ⟨(.type "dict"), none, (.dict #[⟨8082, (.int 8082 433), (.str ⟨#[7970, 953]⟩ 434)⟩, ⟨8083, (.int 8083 436), (.str ⟨#[7971, 953]⟩ 437)⟩, ⟨8084, (.int 8084 439), (.str ⟨#[7972, 953]⟩ 440)⟩, ⟨8085, (.int 8085 442), (.str ⟨#[7973, 953]⟩ 443)⟩, ⟨8086, (.int 8086 445), (.str ⟨#[7974, 953]⟩ 446)⟩, ⟨8087, (.int 8087 448), (.str ⟨#[7975, 953]⟩ 449)⟩, ⟨8088, (.int 8088 451), (.str ⟨#[7968, 953]⟩ 452)⟩, ⟨8089, (.int 8089 454), (.str ⟨#[7969, 953]⟩ 455)⟩, ⟨8090, (.int 8090 457), (.str ⟨#[7970, 953]⟩ 458)⟩, ⟨8091, (.int 8091 460), (.str ⟨#[7971, 953]⟩ 461)⟩, ⟨8092, (.int 8092 463), (.str ⟨#[7972, 953]⟩ 464)⟩, ⟨8093, (.int 8093 466), (.str ⟨#[7973, 953]⟩ 467)⟩, ⟨8094, (.int 8094 469), (.str ⟨#[7974, 953]⟩ 470)⟩, ⟨8095, (.int 8095 472), (.str ⟨#[7975, 953]⟩ 473)⟩, ⟨8096, (.int 8096 475), (.str ⟨#[8032, 953]⟩ 476)⟩, ⟨8097, (.int 8097 478), (.str ⟨#[8033, 953]⟩ 479)⟩, ⟨8098, (.int 8098 481), (.str ⟨#[8034, 953]⟩ 482)⟩] 17), #[]⟩
noncomputable def ob_7_53 (P : Params) : Obj := ⟨(.type "dict"), none, (.dict #[⟨8099, (.int 8099 484), (.str ⟨#[8035, 953]⟩ 485)⟩, ⟨8100, (.int 8100 487), (.str ⟨#[8036, 953]⟩ 488)⟩, ⟨8101, (.int 8101 490), (.str ⟨#[8037, 953]⟩ 491)⟩, ⟨8102, (.int 8102 493), (.str ⟨#[8038, 953]⟩ 494)⟩, ⟨8103, (.int 8103 496), (.str ⟨#[8039, 953]⟩ 497)⟩, ⟨8104, (.int 8104 499), (.str ⟨#[8032, 953]⟩ 500)⟩, ⟨8105, (.int 8105 502), (.str ⟨#[8033, 953]⟩ 503)⟩, ⟨8106, (.int 8106 505), (.str ⟨#[8034, 953]⟩ 506)⟩, ⟨8107, (.int 8107 508), (.str ⟨#[8035, 953]⟩ 509)⟩, ⟨8108, (.int 8108 511), (.str ⟨#[8036, 953]⟩ 512)⟩, ⟨8109, (.int 8109 514), (.str ⟨#[8037, 953]⟩ 515)⟩, ⟨8110, (.int 8110 517), (.str ⟨#[8038, 953]⟩ 518)⟩, ⟨8111, (.int 8111 520), (.str ⟨#[8039, 953]⟩ 521)⟩, ⟨8114, (.int 8114 523), (.str ⟨#[8048, 953]⟩ 524)⟩, ⟨8115, (.int 8115 526), (.str ⟨#[945, 953]⟩ 527)⟩, ⟨8116, (.int 8116 529), (.str ⟨#[940, 953]⟩ 530)⟩, ⟨8118, (.int 8118 532), (.str ⟨#[945, 834]⟩ 533)⟩] 17), #[]⟩
noncomputable def ob_7_54 (P : Params) : Obj := ⟨(.type "dict"), none, (.dict #[⟨8119, (.int 8119 535), (.str ⟨#[945, 834, 953]⟩ 536)⟩, ⟨8124, (.int 8124 538), (.str ⟨#[945, 953]⟩ 539)⟩, ⟨8126, (.int 8126 541), (.str ⟨#[953]⟩ 542)⟩, ⟨8130, (.int 8130 544), (.str ⟨#[8052, 953]⟩ 545)⟩, ⟨8131, (.int 8131 547), (.str ⟨#[951, 953]⟩ 548)⟩, ⟨8132, (.int 8132 550), (.str ⟨#[942, 953]⟩ 551)⟩, ⟨8134, (.int 8134 553), (.str ⟨#[951, 834]⟩ 554)⟩, ⟨8135, (.int 8135 556), (.str ⟨#[951, 834, 953]⟩ 557)⟩, ⟨8140, (.int 8140 559), (.str ⟨#[951, 953]⟩ 560)⟩, ⟨8146, (.int 8146 562), (.str ⟨#[953, 776, 768]⟩ 563)⟩, ⟨8147, (.int 8147 565), (.str ⟨#[953, 776, 769]⟩ 566)⟩, ⟨8150, (.int 8150 568), (.str ⟨#[953, 834]⟩ 569)⟩, ⟨8151, (.int 8151 571), (.str ⟨#[953, 776, 834]⟩ 572)⟩, ⟨8162, (.int 8162 574), (.str ⟨#[965, 776, 768]⟩ 575)⟩, ⟨8163, (.int 8163 577), (.str ⟨#[965, 776, 769]⟩ 578)⟩, ⟨8164, (.int 8164 580), (.str ⟨#[961, 787]⟩ 581)⟩, ⟨8166, (.int 8166 583), (.str ⟨#[965, 834]⟩ 584)⟩] 17), #[]⟩
noncomputable def ob_7_55 (P : Params) : Obj := ⟨(.type "dict"), none, (.dict #[⟨8167, (.int 8167 586), (.str ⟨#[965, 776, 834]⟩ 587)⟩, ⟨8178, (.int 8178 589), (.str ⟨#[8060, 953]⟩ 590)⟩, ⟨8179, (.int 8179 592), (.str ⟨#[969, 953]⟩ 593)⟩, ⟨8180, (.int 8180 595), (.str ⟨#[974, 953]⟩ 596)⟩, ⟨8182, (.int 8182 598), (.str ⟨#[969, 834]⟩ 599)⟩, ⟨8183, (.int 8183 601), (.str ⟨#[969, 834, 953]⟩ 602)⟩, ⟨8188, (.int 8188 604), (.str ⟨#[969, 953]⟩ 605)⟩, ⟨8360, (.int 8360 607), (.str (Str.ofString "rs") 608)⟩, ⟨8450, (.int 8450 610), (.str (Str.ofString "c") 611)⟩, ⟨8451, (.int 8451 613), (.str ⟨#[176, 99]⟩ 614)⟩, ⟨8455, (.int 8455 616), (.str ⟨#[603]⟩ 617)⟩, ⟨8457, (.int 8457 619), (.str ⟨#[176, 102]⟩ 620)⟩, ⟨8459, (.int 8459 622), (.str (Str.ofString "h") 623)⟩, ⟨8460, (.int 8460 625), (.str (Str.ofString "h") 626)⟩, ⟨8461, (.int 8461 628), (.str (Str.ofString "h") 629)⟩, ⟨8464, (.int 8464 631), (.str (Str.ofString "i") 632)⟩, ⟨8465, (.int 8465 634), (.str (Str.ofString "i") 635)⟩] 17), #[]⟩
noncomputable def ob_7_56 (P : Params) : Obj := ⟨(.type "dict"), none, (.dict #[⟨8466, (.int 8466 637), (.str (Str.ofString "l") 638)⟩, ⟨8469, (.int 8469 640), (.str (Str.ofString "n") 641)⟩, ⟨8470, (.int 8470 643), (.str (Str.ofString "no") 644)⟩, ⟨8473, (.int 8473 646), (.str (Str.ofString "p") 647)⟩, ⟨8474, (.int 8474 649), (.str (Str.ofString "q") 650)⟩, ⟨8475, (.int 8475 652), (.str (Str.ofString "r") 653)⟩, ⟨8476, (.int 8476 655), (.str (Str.ofString "r") 656)⟩, ⟨8477, (.int 8477 658), (.str (Str.ofString "r") 659)⟩, ⟨8480, (.int 8480 661), (.str (Str.ofString "sm") 662)⟩, ⟨8481, (.int 8481 664), (.str (Str.ofString "tel") 665)⟩, ⟨8482, (.int 8482 667), (.str (Str.ofString "tm") 668)⟩, ⟨8484, (.int 8484 670), (.str (Str.ofString "z") 671)⟩, ⟨8488, (.int 8488 673), (.str (Str.ofString "z") 674)⟩, ⟨8492, (.int 8492 676), (.str (Str.ofString "b") 677)⟩, ⟨8493, (.int 8493 679), (.str (Str.ofString "c") 680)⟩, ⟨8496, (.int 8496 682), (.str (Str.ofString "e") 683)⟩, ⟨8497, (.int 8497 685), (.str (Str.ofString "f") 686)⟩] 17), #[]⟩
noncomputable def ob_7_57 (P : Params) : Obj := ⟨(.type "dict"), none, (.dict #[⟨8499, (.int 8499 688), (.str (Str.ofString "m") 689)⟩, ⟨8510, (.int 8510 691), (.str ⟨#[947]⟩ 692)⟩, ⟨8511, (.int 8511 694), (.str ⟨#[960]⟩ 695)⟩, ⟨8517, (.int 8517 697), (.str (Str.ofString "d") 698)⟩, ⟨13169, (.int 13169 700), (.str (Str.ofString "hpa") 701)⟩, ⟨13171, (.int 13171 703), (.str (Str.ofString "au") 704)⟩, ⟨13173, (.int 13173 706), (.str (Str.ofString "ov") 707)⟩, ⟨13184, (.int 13184 709), (.str (Str.ofString "pa") 710)⟩, ⟨13185, (.int 13185 712), (.str (Str.ofString "na") 713)⟩, ⟨13186, (.int 13186 715), (.str ⟨#[956, 97]⟩ 716)⟩, ⟨13187, (.int 13187 718), (.str (Str.ofString "ma") 719)⟩, ⟨13188, (.int 13188 721), (.str (Str.ofString "ka") 722)⟩, ⟨13189, (.int 13189 724), (.str (Str.ofString "kb") 725)⟩, ⟨13190, (.int 13190 727), (.str (Str.ofString "mb") 728)⟩, ⟨13191, (.int 13191 730), (.str (Str.ofString "gb") 731)⟩, ⟨13194, (.int 13194 733), (.str (Str.ofString "pf") 734)⟩, ⟨13195, (.int 13195 736), (.str (Str.ofString "nf") 737)⟩] 17), #[]⟩
noncomputable def ob_7_58 (P : Params) : Obj := ⟨(.type "dict"), none, (.dict #[⟨13196, (.int 13196 739), (.str ⟨#[956, 102]⟩ 740)⟩, ⟨13200, (.int 13200 742), (.str (Str.ofString "hz") 743)⟩, ⟨13201, (.int 13201 745), (.str (Str.ofString "khz") 746)⟩, ⟨13202, (.int 13202 748), (.str (Str.ofString "mhz") 749)⟩, ⟨13203, (.int 13203 751), (.str (Str.ofString "ghz") 752)⟩, ⟨13204, (.int 13204 754), (.str (Str.ofString "thz") 755)⟩, ⟨13225, (.int 13225 757), (.str (Str.ofString "pa") 758)⟩, ⟨13226, (.int 13226 760), (.str (Str.ofString "kpa") 761)⟩, ⟨13227, (.int 13227 763), (.str (Str.ofString "mpa") 764)⟩, ⟨13228, (.int 13228 766), (.str (Str.ofString "gpa") 767)⟩, ⟨13236, (.int 13236 769), (.str (Str.ofString "pv") 770)⟩, ⟨13237, (.int 13237 772), (.str (Str.ofString "nv") 773)⟩, ⟨13238, (.int 13238 775), (.str ⟨#[956, 118]⟩ 776)⟩, ⟨13239, (.int 13239 778), (.str (Str.ofString "mv") 779)⟩, ⟨13240, (.int 13240 781), (.str (Str.ofString "kv") 782)⟩, ⟨13241, (.int 13241 784), (.str (Str.ofString "mv") 785)⟩, ⟨13242, (.int 13242 787), (.str (Str.ofString "pw") 788)⟩] 17), #[]⟩
noncomputable def ob_7_59 (P : Params) : Obj := ⟨(.type "dict"), none, (.dict #[⟨13243, (.int 13243 790), (.str (Str.ofString "nw") 791)⟩, ⟨13244, (.int 13244 793), (.str ⟨#[956, 119]⟩ 794)⟩, ⟨13245, (.int 13245 796), (.str (Str.ofString "mw") 797)⟩, ⟨13246, (.int 13246 799), (.str (Str.ofString "kw") 800)⟩, ⟨13247, (.int 13247 802), (.str (Str.ofString "mw") 803)⟩, ⟨13248, (.int 13248 805), (.str ⟨#[107, 969]⟩ 806)⟩, ⟨13249, (.int 13249 808), (.str ⟨#[109, 969]⟩ 809)⟩, ⟨13251, (.int 13251 811), (.str (Str.ofString "bq") 812)⟩, ⟨13254, (.int 13254 814), (.str ⟨#[99, 8725, 107, 103]⟩ 815)⟩, ⟨13255, (.int 13255 817), (.str (Str.ofString "co.") 818)⟩, ⟨13256, (.int 13256 820), (.str (Str.ofString "db") 821)⟩, ⟨13257, (.int 13257 823), (.str (Str.ofString "gy") 824)⟩, ⟨13259, (.int 13259 826), (.str (Str.ofString "hp") 827)⟩, ⟨13261, (.int 13261 829), (.str (Str.ofString "kk") 830)⟩, ⟨13262, (.int 13262 832), (.str (Str.ofString "km") 833)⟩, ⟨13271, (.int 13271 835), (.str (Str.ofString "ph") 836)⟩, ⟨13273, (.int 13273 838), (.str (Str.ofString "ppm") 839)⟩] 17), #[]⟩
noncomputable def ob_7_60 (P : Params) : Obj := ⟨(.type "dict"), none, (.dict #[⟨13274, (.int 13274 841), (.str (Str.ofString "pr") 842)⟩, ⟨13276, (.int 13276 844), (.str (Str.ofString "sv") 845)⟩, ⟨13277, (.int 13277 847), (.str (Str.ofString "wb") 848)⟩, ⟨64256, (.int 64256 850), (.str (Str.ofString "ff") 851)⟩, ⟨64257, (.int 64257 853), (.str (Str.ofString "fi") 854)⟩, ⟨64258, (.int 64258 856), (.str (Str.ofString "fl") 857)⟩, ⟨64259, (.int 64259 859), (.str (Str.ofString "ffi") 860)⟩, ⟨64260, (.int 64260 862), (.str (Str.ofString "ffl") 863)⟩, ⟨64261, (.int 64261 865), (.str (Str.ofString "st") 866)⟩, ⟨64262, (.int 64262 868), (.str (Str.ofString "st") 869)⟩, ⟨64275, (.int 64275 871), (.str ⟨#[1396, 1398]⟩ 872)⟩, ⟨64276, (.int 64276 874), (.str ⟨#[1396, 1381]⟩ 875)⟩, ⟨64277, (.int 64277 877), (.str ⟨#[1396, 1387]⟩ 878)⟩, ⟨64278, (.int 64278 880), (.str ⟨#[1406, 1398]⟩ 881)⟩, ⟨64279, (.int 64279 883), (.str ⟨#[1396, 1389]⟩ 884)⟩, ⟨119808, (.int 119808 886), (.str (Str.ofString "a") 887)⟩, ⟨119809, (.int 119809 889), (.str (Str.ofString "b") 890)⟩] 17), #[]⟩
noncomputable def ob_7_61 (P : Params) : Obj := ⟨(.type "dict"), none, (.dict #[⟨119810, (.int 119810 892), (.str (Str.ofString "c") 893)⟩, ⟨119811, (.int 119811 895), (.str (Str.ofString "d") 896)⟩, ⟨119812, (.int 119812 898), (.str (Str.ofString "e") 899)⟩, ⟨119813, (.int 119813 901), (.str (Str.ofString "f") 902)⟩, ⟨119814, (.int 119814 904), (.str (Str.ofString "g") 905)⟩, ⟨119815, (.int 119815 907), (.str (Str.ofString "h") 908)⟩, ⟨119816, (.int 119816 910), (.str (Str.ofString "i") 911)⟩, ⟨119817, (.int 119817 913), (.str (Str.ofString "j") 914)⟩, ⟨119818, (.int 119818 916), (.str (Str.ofString "k") 917)⟩, ⟨119819, (.int 119819 919), (.str (Str.ofString "l") 920)⟩, ⟨119820, (.int 119820 922), (.str (Str.ofString "m") 923)⟩, ⟨119821, (.int 119821 925), (.str (Str.ofString "n") 926)⟩, ⟨119822, (.int 119822 928), (.str (Str.ofString "o") 929)⟩, ⟨119823, (.int 119823 931), (.str (Str.ofString "p") 932)⟩, ⟨119824, (.int 119824 934), (.str (Str.ofString "q") 935)⟩, ⟨119825, (.int 119825 937), (.str (Str.ofString "r") 938)⟩, ⟨119826, (.int 119826 940), (.str (Str.ofString "s") 941)⟩] 17), #[]⟩
noncomputable def ob_7_62 (P : Params) : Obj := ⟨(.type "dict"), none, (.dict #[⟨119827, (.int 119827 943), (.str (Str.ofString "t") 944)⟩, ⟨119828, (.int 119828 946), (.str (Str.ofString "u") 947)⟩, ⟨119829, (.int 119829 949), (.str (Str.ofString "v") 950)⟩, ⟨119830, (.int 119830 952), (.str (Str.ofString "w") 953)⟩, ⟨119831, (.int 119831 955), (.str (Str.ofString "x") 956)⟩, ⟨119832, (.int 119832 958), (.str (Str.ofString "y") 959)⟩, ⟨119833, (.int 119833 961), (.str (Str.ofString "z") 962)⟩, ⟨119860, (.int 119860 964), (.str (Str.ofString "a") 965)⟩, ⟨119861, (.int 119861 967), (.str (Str.ofString "b") 968)⟩, ⟨119862, (.int 119862 970), (.str (Str.ofString "c") 971)⟩, ⟨119863, (.int 119863 973), (.str (Str.ofString "d") 974)⟩, ⟨119864, (.int 119864 976), (.str (Str.ofString "e") 977)⟩, ⟨119865, (.int 119865 979), (.str (Str.ofString "f") 980)⟩, ⟨119866, (.int 119866 982), (.str (Str.ofString "g") 983)⟩, ⟨119867, (.int 119867 985), (.str (Str.ofString "h") 986)⟩, ⟨119868, (.int 119868 988), (.str (Str.ofString "i") 989)⟩, ⟨119869, (.int 119869 991), (.str (Str.ofString "j") 992)⟩] 17), #[]⟩
noncomputable def ob_7_63 (P : Params) : Obj := ⟨(.type "dict"), none, (.dict #[⟨119870, (.int 119870 994), (.str (Str.ofString "k") 995)⟩, ⟨119871, (.int 119871 997), (.str (Str.ofString "l") 998)⟩, ⟨119872, (.int 119872 1000), (.str (Str.ofString "m") 1001)⟩, ⟨119873, (.int 119873 1003), (.str (Str.ofString "n") 1004)⟩, ⟨119874, (.int 119874 1006), (.str (Str.ofString "o") 1007)⟩, ⟨119875, (.int 119875 1009), (.str (Str.ofString "p") 1010)⟩, ⟨119876, (.int 119876 1012), (.str (Str.ofString "q") 1013)⟩, ⟨119877, (.int 119877 1015), (.str (Str.ofString "r") 1016)⟩, ⟨119878, (.int 119878 1018), (.str (Str.ofString "s") 1019)⟩, ⟨119879, (.int 119879 1021), (.str (Str.ofString "t") 1022)⟩, ⟨119880, (.int 119880 1024), (.str (Str.ofString "u") 1025)⟩, ⟨119881, (.int 119881 1027), (.str (Str.ofString "v") 1028)⟩, ⟨119882, (.int 119882 1030), (.str (Str.ofString "w") 1031)⟩, ⟨119883, (.int 119883 1033), (.str (Str.ofString "x") 1034)⟩, ⟨119884, (.int 119884 1036), (.str (Str.ofString "y") 1037)⟩, ⟨119885, (.int 119885 1039), (.str (Str.ofString "z") 1040)⟩, ⟨119912, (.int 119912 1042), (.str (Str.ofString "a") 1043)⟩] 17), #[]⟩
noncomputable def ob_7_64 (P : Params) : Obj := ⟨(.type "dict"), none, (.dict #[⟨119913, (.int 119913 1045), (.str (Str.ofString "b") 1046)⟩, ⟨119914, (.int 119914 1048), (.str (Str.ofString "c") 1049)⟩, ⟨119915, (.int 119915 1051), (.str (Str.ofString "d") 1052)⟩, ⟨119916, (.int 119916 1054), (.str (Str.ofString "e") 1055)⟩, ⟨119917, (.int 119917 1057), (.str (Str.ofString "f") 1058)⟩, ⟨119918, (.int 119918 1060), (.str (Str.ofString "g") 1061)⟩, ⟨119919, (.int 119919 1063), (.str (Str.ofString "h") 1064)⟩, ⟨119920, (.int 119920 1066), (.str (Str.ofString "i") 1067)⟩, ⟨119921, (.int 119921 1069), (.str (Str.ofString "j") 1070)⟩, ⟨119922, (.int 119922 1072), (.str (Str.ofString "k") 1073)⟩, ⟨119923, (.int 119923 1075), (.str (Str.ofString "l") 1076)⟩, ⟨119924, (.int 119924 1078), (.str (Str.ofString "m") 1079)⟩, ⟨119925, (.int 119925 1081), (.str (Str.ofString "n") 1082)⟩, ⟨119926, (.int 119926 1084), (.str (Str.ofString "o") 1085)⟩, ⟨119927, (.int 119927 1087), (.str (Str.ofString "p") 1088)⟩, ⟨119928, (.int 119928 1090), (.str (Str.ofString "q") 1091)⟩, ⟨119929, (.int 119929 1093), (.str (Str.ofString "r") 1094)⟩] 17), #[]⟩
noncomputable def ob_7_65 (P : Params) : Obj := ⟨(.type "dict"), none, (.dict #[⟨119930, (.int 119930 1096), (.str (Str.ofString "s") 1097)⟩, ⟨119931, (.int 119931 1099), (.str (Str.ofString "t") 1100)⟩, ⟨119932, (.int 119932 1102), (.str (Str.ofString "u") 1103)⟩, ⟨119933, (.int 119933 1105), (.str (Str.ofString "v") 1106)⟩, ⟨119934, (.int 119934 1108), (.str (Str.ofString "w") 1109)⟩, ⟨119935, (.int 119935 1111), (.str (Str.ofString "x") 1112)⟩, ⟨119936, (.int 119936 1114), (.str (Str.ofString "y") 1115)⟩, ⟨119937, (.int 119937 1117), (.str (Str.ofString "z") 1118)⟩, ⟨119964, (.int 119964 1120), (.str (Str.ofString "a") 1121)⟩, ⟨119966, (.int 119966 1123), (.str (Str.ofString "c") 1124)⟩, ⟨119967, (.int 119967 1126), (.str (Str.ofString "d") 1127)⟩, ⟨119970, (.int 119970 1129), (.str (Str.ofString "g") 1130)⟩, ⟨119973, (.int 119973 1132), (.str (Str.ofString "j") 1133)⟩, ⟨119974, (.int 119974 1135), (.str (Str.ofString "k") 1136)⟩, ⟨119977, (.int 119977 1138), (.str (Str.ofString "n") 1139)⟩, ⟨119978, (.int 119978 1141), (.str (Str.ofString "o") 1142)⟩, ⟨119979, (.int 119979 1144), (.str (Str.ofString "p") 1145)⟩] 17), #[]⟩
noncomputable def ob_7_66 (P : Params) : Obj := ⟨(.type "dict"), none, (.dict #[⟨119980, (.int 119980 1147), (.str (Str.ofString "q") 1148)⟩, ⟨119982, (.int 119982 1150), (.str (Str.ofString "s") 1151)⟩, ⟨119983, (.int 119983 1153), (.str (Str.ofString "t") 1154)⟩, ⟨119984, (.int 119984 1156), (.str (Str.ofString "u") 1157)⟩, ⟨119985, (.int 119985 1159), (.str (Str.ofString "v") 1160)⟩, ⟨119986, (.int 119986 1162), (.str (Str.ofString "w") 1163)⟩, ⟨119987, (.int 119987 1165), (.str (Str.ofString "x") 1166)⟩, ⟨119988, (.int 119988 1168), (.str (Str.ofString "y") 1169)⟩, ⟨119989, (.int 119989 1171), (.str (Str.ofString "z") 1172)⟩, ⟨120016, (.int 120016 1174), (.str (Str.ofString "a") 1175)⟩, ⟨120017, (.int 120017 1177), (.str (Str.ofString "b") 1178)⟩, ⟨120018, (.int 120018 1180), (.str (Str.ofString "c") 1181)⟩, ⟨120019, (.int 120019 1183), (.str (Str.ofString "d") 1184)⟩, ⟨120020, (.int 120020 1186), (.str (Str.ofString "e") 1187)⟩, ⟨120021, (.int 120021 1189), (.str (Str.ofString "f") 1190)⟩, ⟨120022, (.int 120022 1192), (.str (Str.ofString "g") 1193)⟩, ⟨120023, (.int 120023 1195), (.str (Str.ofString "h") 1196)⟩] 17), #[]⟩
noncomputable def ob_7_67 (P : Params) : Obj := ⟨(.type "dict"), none, (.dict #[⟨120024, (.int 120024 1198), (.str (Str.ofString "i") 1199)⟩, ⟨120025, (.int 120025 1201), (.str (Str.ofString "j") 1202)⟩, ⟨120026, (.int 120026 1204), (.str (Str.ofString "k") 1205)⟩, ⟨120027, (.int 120027 1207), (.str (Str.ofString "l") 1208)⟩, ⟨120028, (.int 120028 1210), (.str (Str.ofString "m") 1211)⟩, ⟨120029, (.int 120029 1213), (.str (Str.ofString "n") 1214)⟩, ⟨120030, (.int 120030 1216), (.str (Str.ofString "o") 1217)⟩, ⟨120031, (.int 120031 1219), (.str (Str.ofString "p") 1220)⟩, ⟨120032, (.int 120032 1222), (.str (Str.ofString "q") 1223)⟩, ⟨120033, (.int 120033 1225), (.str (Str.ofString "r") 1226)⟩, ⟨120034, (.int 120034 1228), (.str (Str.ofString "s") 1229)⟩, ⟨120035, (.int 120035 1231), (.str (Str.ofString "t") 1232)⟩, ⟨120036, (.int 120036 1234), (.str (Str.ofString "u") 1235)⟩, ⟨120037, (.int 120037 1237), (.str (Str.ofString "v") 1238)⟩, ⟨120038, (.int 120038 1240), (.str (Str.ofString "w") 1241)⟩, ⟨120039, (.int 120039 1243), (.str (Str.ofString "x") 1244)⟩, ⟨120040, (.int 120040 1246), (.str (Str.ofString "y") 1247)⟩] 17), #[]⟩
noncomputable def ob_7_68 (P : Params) : Obj := ⟨(.type "dict"), none, (.dict #[⟨120041, (.int 120041 1249), (.str (Str.ofString "z") 1250)⟩, ⟨120068, (.int 120068 1252), (.str (Str.ofString "a") 1253)⟩, ⟨120069, (.int 120069 1255), (.str (Str.ofString "b") 1256)⟩, ⟨120071, (.int 120071 1258), (.str (Str.ofString "d") 1259)⟩, ⟨120072, (.int 120072 1261), (.str (Str.ofString "e") 1262)⟩, ⟨120073, (.int 120073 1264), (.str (Str.ofString "f") 1265)⟩, ⟨120074, (.int 120074 1267), (.str (Str.ofString "g") 1268)⟩, ⟨120077, (.int 120077 1270), (.str (Str.ofString "j") 1271)⟩, ⟨120078, (.int 120078 1273), (.str (Str.ofString "k") 1274)⟩, ⟨120079, (.int 120079 1276), (.str (Str.ofString "l") 1277)⟩, ⟨120080, (.int 120080 1279), (.str (Str.ofString "m") 1280)⟩, ⟨120081, (.int 120081 1282), (.str (Str.ofString "n") 1283)⟩, ⟨120082, (.int 120082 1285), (.str (Str.ofString "o") 1286)⟩, ⟨120083, (.int 120083 1288), (.str (Str.ofString "p") 1289)⟩, ⟨120084, (.int 120084 1291), (.str (Str.ofString "q") 1292)⟩, ⟨120086, (.int 120086 1294), (.str (Str.ofString "s") 1295)⟩, ⟨120087, (.int 120087 1297), (.str (Str.ofString "t") 1298)⟩] 17), #[]⟩
noncomputable def ob_7_69 (P : Params) : Obj := ⟨(.type "dict"), none, (.dict #[⟨120088, (.int 120088 1300), (.str (Str.ofString "u") 1301)⟩, ⟨120089, (.int 120089 1303), (.str (Str.ofString "v") 1304)⟩, ⟨120090, (.int 120090 1306), (.str (Str.ofString "w") 1307)⟩, ⟨120091, (.int 120091 1309), (.str (Str.ofString "x") 1310)⟩, ⟨120092, (.int 120092 1312), (.str (Str.ofString "y") 1313)⟩, ⟨120120, (.int 120120 1315), (.str (Str.ofString "a") 1316)⟩, ⟨120121, (.int 120121 1318), (.str (Str.ofString "b") 1319)⟩, ⟨120123, (.int 120123 1321), (.str (Str.ofString "d") 1322)⟩, ⟨120124, (.int 120124 1324), (.str (Str.ofString "e") 1325)⟩, ⟨120125, (.int 120125 1327), (.str (Str.ofString "f") 1328)⟩, ⟨120126, (.int 120126 1330), (.str (Str.ofString "g") 1331)⟩, ⟨120128, (.int 120128 1333), (.str (Str.ofString "i") 1334)⟩, ⟨120129, (.int 120129 1336), (.str (Str.ofString "j") 1337)⟩, ⟨120130, (.int 120130 1339), (.str (Str.ofString "k") 1340)⟩, ⟨120131, (.int 120131 1342), (.str (Str.ofString "l") 1343)⟩, ⟨120132, (.int 120132 1345), (.str (Str.ofString "m") 1346)⟩, ⟨120134, (.int 120134 1348), (.str (Str.ofString "o") 1349)⟩] 17), #[]⟩
noncomputable def ob_7_70 (P : Params) : Obj := ⟨(.type "dict"), none, (.dict #[⟨120138, (.int 120138 1351), (.str (Str.ofString "s") 1352)⟩, ⟨120139, (.int 120139 1354), (.str (Str.ofString "t") 1355)⟩, ⟨120140, (.int 120140 1357), (.str (Str.ofString "u") 1358)⟩, ⟨120141, (.int 120141 1360), (.str (Str.ofString "v") 1361)⟩, ⟨120142, (.int 120142 1363), (.str (Str.ofString "w") 1364)⟩, ⟨120143, (.int 120143 1366), (.str (Str.ofString "x") 1367)⟩, ⟨120144, (.int 120144 1369), (.str (Str.ofString "y") 1370)⟩, ⟨120172, (.int 120172 1372), (.str (Str.ofString "a") 1373)⟩, ⟨120173, (.int 120173 1375), (.str (Str.ofString "b") 1376)⟩, ⟨120174, (.int 120174 1378), (.str (Str.ofString "c") 1379)⟩, ⟨120175, (.int 120175 1381), (.str (Str.ofString "d") 1382)⟩, ⟨120176, (.int 120176 1384), (.str (Str.ofString "e") 1385)⟩, ⟨120177, (.int 120177 1387), (.str (Str.ofString "f") 1388)⟩, ⟨120178, (.int 120178 1390), (.str (Str.ofString "g") 1391)⟩, ⟨120179, (.int 120179 1393), (.str (Str.ofString "h") 1394)⟩, ⟨120180, (.int 120180 1396), (.str (Str.ofString "i") 1397)⟩, ⟨120181, (.int 120181 1399), (.str (Str.ofString "j") 1400)⟩] 17), #[]⟩
noncomputable def ob_7_71 (P : Params) : Obj := ⟨(.type "dict"), none, (.dict #[⟨120182, (.int 120182 1402), (.str (Str.ofString "k") 1403)⟩, ⟨120183, (.int 120183 1405), (.str (Str.ofString "l") 1406)⟩, ⟨120184, (.int 120184 1408), (.str (Str.ofString "m") 1409)⟩, ⟨120185, (.int 120185 1411), (.str (Str.ofString "n") 1412)⟩, ⟨120186, (.int 120186 1414), (.str (Str.ofString "o") 1415)⟩, ⟨120187, (.int 120187 1417), (.str (Str.ofString "p") 1418)⟩, ⟨120188, (.int 120188 1420), (.str (Str.ofString "q") 1421)⟩, ⟨120189, (.int 120189 1423), (.str (Str.ofString "r") 1424)⟩, ⟨120190, (.int 120190 1426), (.str (Str.ofString "s") 1427)⟩, ⟨120191, (.int 120191 1429), (.str (Str.ofString "t") 1430)⟩, ⟨120192, (.int 120192 1432), (.str (Str.ofString "u") 1433)⟩, ⟨120193, (.int 120193 1435), (.str (Str.ofString "v") 1436)⟩, ⟨120194, (.int 120194 1438), (.str (Str.ofString "w") 1439)⟩, ⟨120195, (.int 120195 1441), (.str (Str.ofString "x") 1442)⟩, ⟨120196, (.int 120196 1444), (.str (Str.ofString "y") 1445)⟩, ⟨120197, (.int 120197 1447), (.str (Str.ofString "z") 1448)⟩, ⟨120224, (.int 120224 1450), (.str (Str.ofString "a") 1451)⟩] 17), #[]⟩
noncomputable def ob_7_72 (P : Params) : Obj := ⟨(.type "dict"), none, (.dict #[⟨120225, (.int 120225 1453), (.str (Str.ofString "b") 1454)⟩, ⟨120226, (.int 120226 1456), (.str (Str.ofString "c") 1457)⟩, ⟨120227, (.int 120227 1459), (.str (Str.ofString "d") 1460)⟩, ⟨120228, (.int 120228 1462), (.str (Str.ofString "e") 1463)⟩, ⟨120229, (.int 120229 1465), (.str (Str.ofString "f") 1466)⟩, ⟨120230, (.int 120230 1468), (.str (Str.ofString "g") 1469)⟩, ⟨120231, (.int 120231 1471), (.str (Str.ofString "h") 1472)⟩, ⟨120232, (.int 120232 1474), (.str (Str.ofString "i") 1475)⟩, ⟨120233, (.int 120233 1477), (.str (Str.ofString "j") 1478)⟩, ⟨120234, (.int 120234 1480), (.str (Str.ofString "k") 1481)⟩, ⟨120235, (.int 120235 1483), (.str (Str.ofString "l") 1484)⟩, ⟨120236, (.int 120236 1486), (.str (Str.ofString "m") 1487)⟩, ⟨120237, (.int 120237 1489), (.str (Str.ofString "n") 1490)⟩, ⟨120238, (.int 120238 1492), (.str (Str.ofString "o") 1493)⟩, ⟨120239, (.int 120239 1495), (.str (Str.ofString "p") 1496)⟩, ⟨120240, (.int 120240 1498), (.str (Str.ofString "q") 1499)⟩, ⟨120241, (.int 120241 1501), (.str (Str.ofString "r") 1502)⟩] 17), #[]⟩
noncomputable def ob_7_73 (P : Params) : Obj := ⟨(.type "dict"), none, (.dict #[⟨120242, (.int 120242 1504), (.str (Str.ofString "s") 1505)⟩, ⟨120243, (.int 120243 1507), (.str (Str.ofString "t") 1508)⟩, ⟨120244, (.int 120244 1510), (.str (Str.ofString "u") 1511)⟩, ⟨120245, (.int 120245 1513), (.str (Str.ofString "v") 1514)⟩, ⟨120246, (.int 120246 1516), (.str (Str.ofString "w") 1517)⟩, ⟨120247, (.int 120247 1519), (.str (Str.ofString "x") 1520)⟩, ⟨120248, (.int 120248 1522), (.str (Str.ofString "y") 1523)⟩, ⟨120249, (.int 120249 1525), (.str (Str.ofString "z") 1526)⟩, ⟨120276, (.int 120276 1528), (.str (Str.ofString "a") 1529)⟩, ⟨120277, (.int 120277 1531), (.str (Str.ofString "b") 1532)⟩, ⟨120278, (.int 120278 1534), (.str (Str.ofString "c") 1535)⟩, ⟨120279, (.int 120279 1537), (.str (Str.ofString "d") 1538)⟩, ⟨120280, (.int 120280 1540), (.str (Str.ofString "e") 1541)⟩, ⟨120281, (.int 120281 1543), (.str (Str.ofString "f") 1544)⟩, ⟨120282, (.int 120282 1546), (.str (Str.ofString "g") 1547)⟩, ⟨120283, (.int 120283 1549), (.str (Str.ofString "h") 1550)⟩, ⟨120284, (.int 120284 1552), (.str (Str.ofString "i") 1553)⟩] 17), #[]⟩
noncomputable def ob_7_74 (P : Params) : Obj := ⟨(.type "dict"), none, (.dict #[⟨120285, (.int 120285 1555), (.str (Str.ofString "j") 1556)⟩, ⟨120286, (.int 120286 1558), (.str (Str.ofString "k") 1559)⟩, ⟨120287, (.int 120287 1561), (.str (Str.ofString "l") 1562)⟩, ⟨120288, (.int 120288 1564), (.str (Str.ofString "m") 1565)⟩, ⟨120289, (.int 120289 1567), (.str (Str.ofString "n") 1568)⟩, ⟨120290, (.int 120290 1570), (.str (Str.ofString "o") 1571)⟩, ⟨120291, (.int 120291 1573), (.str (Str.ofString "p") 1574)⟩, ⟨120292, (.int 120292 1576), (.str (Str.ofString "q") 1577)⟩, ⟨120293, (.int 120293 1579), (.str (Str.ofString "r") 1580)⟩, ⟨120294, (.int 120294 1582), (.str (Str.ofString "s") 1583)⟩, ⟨120295, (.int 120295 1585), (.str (Str.ofString "t") 1586)⟩, ⟨120296, (.int 120296 1588), (.str (Str.ofString "u") 1589)⟩, ⟨120297, (.int 120297 1591), (.str (Str.ofString "v") 1592)⟩, ⟨120298, (.int 120298 1594), (.str (Str.ofString "w") 1595)⟩, ⟨120299, (.int 120299 1597), (.str (Str.ofString "x") 1598)⟩, ⟨120300, (.int 120300 1600), (.str (Str.ofString "y") 1601)⟩, ⟨120301, (.int 120301 1603), (.str (Str.ofString "z") 1604)⟩] 17), #[]⟩
noncomputable def ob_7_75 (P : Params) : Obj := ⟨(.type "dict"), none, (.dict #[⟨120328, (.int 120328 1606), (.str (Str.ofString "a") 1607)⟩, ⟨120329, (.int 120329 1609), (.str (Str.ofString "b") 1610)⟩, ⟨120330, (.int 120330 1612), (.str (Str.ofString "c") 1613)⟩, ⟨120331, (.int 120331 1615), (.str (Str.ofString "d") 1616)⟩, ⟨120332, (.int 120332 1618), (.str (Str.ofString "e") 1619)⟩, ⟨120333, (.int 120333 1621), (.str (Str.ofString "f") 1622)⟩, ⟨120334, (.int 120334 1624), (.str (Str.ofString "g") 1625)⟩, ⟨120335, (.int 120335 1627), (.str (Str.ofString "h") 1628)⟩, ⟨120336, (.int 120336 1630), (.str (Str.ofString "i") 1631)⟩, ⟨120337, (.int 120337 1633), (.str (Str.ofString "j") 1634)⟩, ⟨120338, (.int 120338 1636), (.str (Str.ofString "k") 1637)⟩, ⟨120339, (.int 120339 1639), (.str (Str.ofString "l") 1640)⟩, ⟨120340, (.int 120340 1642), (.str (Str.ofString "m") 1643)⟩, ⟨120341, (.int 120341 1645), (.str (Str.ofString "n") 1646)⟩, ⟨120342, (.int 120342 1648), (.str (Str.ofString "o") 1649)⟩, ⟨120343, (.int 120343 1651), (.str (Str.ofString "p") 1652)⟩, ⟨120344, (.int 120344 1654), (.str (Str.ofString "q") 1655)⟩] 17), #[]⟩
noncomputable def ob_7_76 (P : Params) : Obj := ⟨(.type "dict"), none, (.dict #[⟨120345, (.int 120345 1657), (.str (Str.ofString "r") 1658)⟩, ⟨120346, (.int 120346 1660), (.str (Str.ofString "s") 1661)⟩, ⟨120347, (.int 120347 1663), (.str (Str.ofString "t") 1664)⟩, ⟨120348, (.int 120348 1666), (.str (Str.ofString "u") 1667)⟩, ⟨120349, (.int 120349 1669), (.str (Str.ofString "v") 1670)⟩, ⟨120350, (.int 120350 1672), (.str (Str.ofString "w") 1673)⟩, ⟨120351, (.int 120351 1675), (.str (Str.ofString "x") 1676)⟩, ⟨120352, (.int 120352 1678), (.str (Str.ofString "y") 1679)⟩, ⟨120353, (.int 120353 1681), (.str (Str.ofString "z") 1682)⟩, ⟨120380, (.int 120380 1684), (.str (Str.ofString "a") 1685)⟩, ⟨120381, (.int 120381 1687), (.str (Str.ofString "b") 1688)⟩, ⟨120382, (.int 120382 1690), (.str (Str.ofString "c") 1691)⟩, ⟨120383, (.int 120383 1693), (.str (Str.ofString "d") 1694)⟩, ⟨120384, (.int 120384 1696), (.str (Str.ofString "e") 1697)⟩, ⟨120385, (.int 120385 1699), (.str (Str.ofString "f") 1700)⟩, ⟨120386, (.int 120386 1702), (.str (Str.ofString "g") 1703)⟩, ⟨120387, (.int 120387 1705), (.str (Str.ofString "h") 1706)⟩] 17), #[]⟩
noncomputable def ob_7_77 (P : Params) : Obj := ⟨(.type "dict"), none, (.dict #[⟨120388, (.int 120388 1708), (.str (Str.ofString "i") 1709)⟩, ⟨120389, (.int 120389 1711), (.str (Str.ofString "j") 1712)⟩, ⟨120390, (.int 120390 1714), (.str (Str.ofString "k") 1715)⟩, ⟨120391, (.int 120391 1717), (.str (Str.ofString "l") 1718)⟩, ⟨120392, (.int 120392 1720), (.str (Str.ofString "m") 1721)⟩, ⟨120393, (.int 120393 1723), (.str (Str.ofString "n") 1724)⟩, ⟨120394, (.int 120394 1726), (.str (Str.ofString "o") 1727)⟩, ⟨120395, (.int 120395 1729), (.str (Str.ofString "p") 1730)⟩, ⟨120396, (.int 120396 1732), (.str (Str.ofString "q") 1733)⟩, ⟨120397, (.int 120397 1735), (.str (Str.ofString "r") 1736)⟩, ⟨120398, (.int 120398 1738), (.str (Str.ofString "s") 1739)⟩, ⟨120399, (.int 120399 1741), (.str (Str.ofString "t") 1742)⟩, ⟨120400, (.int 120400 1744), (.str (Str.ofString "u") 1745)⟩, ⟨120401, (.int 120401 1747), (.str (Str.ofString "v") 1748)⟩, ⟨120402, (.int 120402 1750), (.str (Str.ofString "w") 1751)⟩, ⟨120403, (.int 120403 1753), (.str (Str.ofString "x") 1754)⟩, ⟨120404, (.int 120404 1756), (.str (Str.ofString "y") 1757)⟩] 17), #[]⟩
noncomputable def ob_7_78 (P : Params) : Obj := ⟨(.type "dict"), none, (.dict #[⟨120405, (.int 120405 1759), (.str (Str.ofString "z") 1760)⟩, ⟨120432, (.int 120432 1762), (.str (Str.ofString "a") 1763)⟩, ⟨120433, (.int 120433 1765), (.str (Str.ofString "b") 1766)⟩, ⟨120434, (.int 120434 1768), (.str (Str.ofString "c") 1769)⟩, ⟨120435, (.int 120435 1771), (.str (Str.ofString "d") 1772)⟩, ⟨120436, (.int 120436 1774), (.str (Str.ofString "e") 1775)⟩, ⟨120437, (.int 120437 1777), (.str (Str.ofString "f") 1778)⟩, ⟨120438, (.int 120438 1780), (.str (Str.ofString "g") 1781)⟩, ⟨120439, (.int 120439 1783), (.str (Str.ofString "h") 1784)⟩, ⟨120440, (.int 120440 1786), (.str (Str.ofString "i") 1787)⟩, ⟨120441, (.int 120441 1789), (.str (Str.ofString "j") 1790)⟩, ⟨120442, (.int 120442 1792), (.str (Str.ofString "k") 1793)⟩, ⟨120443, (.int 120443 1795), (.str (Str.ofString "l") 1796)⟩, ⟨120444, (.int 120444 1798), (.str (Str.ofString "m") 1799)⟩, ⟨120445, (.int 120445 1801), (.str (Str.ofString "n") 1802)⟩, ⟨120446, (.int 120446 1804), (.str (Str.ofString "o") 1805)⟩, ⟨120447, (.int 120447 1807), (.str (Str.ofString "p") 1808)⟩] 17), #[]⟩
noncomputable def ob_7_79 (P : Params) : Obj := ⟨(.type "dict"), none, (.dict #[⟨120448, (.int 120448 1810), (.str (Str.ofString "q") 1811)⟩, ⟨120449, (.int 120449 1813), (.str (Str.ofString "r") 1814)⟩, ⟨120450, (.int 120450 1816), (.str (Str.ofString "s") 1817)⟩, ⟨120451, (.int 120451 1819), (.str (Str.ofString "t") 1820)⟩, ⟨120452, (.int 120452 1822), (.str (Str.ofString "u") 1823)⟩, ⟨120453, (.int 120453 1825), (.str (Str.ofString "v") 1826)⟩, ⟨120454, (.int 120454 1828), (.str (Str.ofString "w") 1829)⟩, ⟨120455, (.int 120455 1831), (.str (Str.ofString "x") 1832)⟩, ⟨120456, (.int 120456 1834), (.str (Str.ofString "y") 1835)⟩, ⟨120457, (.int 120457 1837), (.str (Str.ofString "z") 1838)⟩, ⟨120488, (.int 120488 1840), (.str ⟨#[945]⟩ 1841)⟩, ⟨120489, (.int 120489 1843), (.str ⟨#[946]⟩ 1844)⟩, ⟨120490, (.int 120490 1846), (.str ⟨#[947]⟩ 1847)⟩, ⟨120491, (.int 120491 1849), (.str ⟨#[948]⟩ 1850)⟩, ⟨120492, (.int 120492 1852), (.str ⟨#[949]⟩ 1853)⟩, ⟨120493, (.int 120493 1855), (.str ⟨#[950]⟩ 1856)⟩, ⟨120494, (.int 120494 1858), (.str ⟨#[951]⟩ 1859)⟩] 17), #[]⟩
noncomputable def ob_7_80 (P : Params) : Obj := ⟨(.type "dict"), none, (.dict #[⟨120495, (.int 120495 1861), (.str ⟨#[952]⟩ 1862)⟩, ⟨120496, (.int 120496 1864), (.str ⟨#[953]⟩ 1865)⟩, ⟨120497, (.int 120497 1867), (.str ⟨#[954]⟩ 1868)⟩, ⟨120498, (.int 120498 1870), (.str ⟨#[955]⟩ 1871)⟩, ⟨120499, (.int 120499 1873), (.str ⟨#[956]⟩ 1874)⟩, ⟨120500, (.int 120500 1876), (.str ⟨#[957]⟩ 1877)⟩, ⟨120501, (.int 120501 1879), (.str ⟨#[958]⟩ 1880)⟩, ⟨120502, (.int 120502 1882), (.str ⟨#[959]⟩ 1883)⟩, ⟨120503, (.int 120503 1885), (.str ⟨#[960]⟩ 1886)⟩, ⟨120504, (.int 120504 1888), (.str ⟨#[961]⟩ 1889)⟩, ⟨120505, (.int 120505 1891), (.str ⟨#[952]⟩ 1892)⟩, ⟨120506, (.int 120506 1894), (.str ⟨#[963]⟩ 1895)⟩, ⟨120507, (.int 120507 1897), (.str ⟨#[964]⟩ 1898)⟩, ⟨120508, (.int 120508 1900), (.str ⟨#[965]⟩ 1901)⟩, ⟨120509, (.int 120509 1903), (.str ⟨#[966]⟩ 1904)⟩, ⟨120510, (.int 120510 1906), (.str ⟨#[967]⟩ 1907)⟩, ⟨120511, (.int 120511 1909), (.str ⟨#[968]⟩ 1910)⟩] 17), #[]⟩
noncomputable def ob_7_81 (P : Params) : Obj := ⟨(.type "dict"), none, (.dict #[⟨120512, (.int 120512 1912), (.str ⟨#[969]⟩ 1913)⟩, ⟨120531, (.int 120531 1915), (.str ⟨#[963]⟩ 1916)⟩, ⟨120546, (.int 120546 1918), (.str ⟨#[945]⟩ 1919)⟩, ⟨120547, (.int 120547 1921), (.str ⟨#[946]⟩ 1922)⟩, ⟨120548, (.int 120548 1924), (.str ⟨#[947]⟩ 1925)⟩, ⟨120549, (.int 120549 1927), (.str ⟨#[948]⟩ 1928)⟩, ⟨120550, (.int 120550 1930), (.str ⟨#[949]⟩ 1931)⟩, ⟨120551, (.int 120551 1933), (.str ⟨#[950]⟩ 1934)⟩, ⟨120552, (.int 120552 1936), (.str ⟨#[951]⟩ 1937)⟩, ⟨120553, (.int 120553 1939), (.str ⟨#[952]⟩ 1940)⟩, ⟨120554, (.int 120554 1942), (.str ⟨#[953]⟩ 1943)⟩, ⟨120555, (.int 120555 1945), (.str ⟨#[954]⟩ 1946)⟩, ⟨120556, (.int 120556 1948), (.str ⟨#[955]⟩ 1949)⟩, ⟨120557, (.int 120557 1951), (.str ⟨#[956]⟩ 1952)⟩, ⟨120558, (.int 120558 1954), (.str ⟨#[957]⟩ 1955)⟩, ⟨120559, (.int 120559 1957), (.str ⟨#[958]⟩ 1958)⟩, ⟨120560, (.int 120560 1960), (.str ⟨#[959]⟩ 1961)⟩] 17), #[]⟩
noncomputable def ob_7_82 (P : Params) : Obj := ⟨(.type "dict"), none, (.dict #[⟨120561, (.int 120561 1963), (.str ⟨#[960]⟩ 1964)⟩, ⟨120562, (.int 120562 1966), (.str ⟨#[961]⟩ 1967)⟩, ⟨120563, (.int 120563 1969), (.str ⟨#[952]⟩ 1970)⟩, ⟨120564, (.int 120564 1972), (.str ⟨#[963]⟩ 1973)⟩, ⟨120565, (.int 120565 1975), (.str ⟨#[964]⟩ 1976)⟩, ⟨120566, (.int 120566 1978), (.str ⟨#[965]⟩ 1979)⟩, ⟨120567, (.int 120567 1981), (.str ⟨#[966]⟩ 1982)⟩, ⟨120568, (.int 120568 1984), (.str ⟨#[967]⟩ 1985)⟩, ⟨120569, (.int 120569 1987), (.str ⟨#[968]⟩ 1988)⟩, ⟨120570, (.int 120570 1990), (.str ⟨#[969]⟩ 1991)⟩, ⟨120589, (.int 120589 1993), (.str ⟨#[963]⟩ 1994)⟩, ⟨120604, (.int 120604 1996), (.str ⟨#[945]⟩ 1997)⟩, ⟨120605, (.int 120605 1999), (.str ⟨#[946]⟩ 2000)⟩, ⟨120606, (.int 120606 2002), (.str ⟨#[947]⟩ 2003)⟩, ⟨120607, (.int 120607 2005), (.str ⟨#[948]⟩ 2006)⟩, ⟨120608, (.int 120608 2008), (.str ⟨#[949]⟩ 2009)⟩, ⟨120609, (.int 120609 2011), (.str ⟨#[950]⟩ 2012)⟩] 17), #[]⟩
noncomputable def ob_7_83 (P : Params) : Obj := ⟨(.type "dict"), none, (.dict #[⟨120610, (.int 120610 2014), (.str ⟨#[951]⟩ 2015)⟩, ⟨120611, (.int 120611 2017), (.str ⟨#[952]⟩ 2018)⟩, ⟨120612, (.int 120612 2020), (.str ⟨#[953]⟩ 2021)⟩, ⟨120613, (.int 120613 2023), (.str ⟨#[954]⟩ 2024)⟩, ⟨120614, (.int 120614 2026), (.str ⟨#[955]⟩ 2027)⟩, ⟨120615, (.int 120615 2029), (.str ⟨#[956]⟩ 2030)⟩, ⟨120616, (.int 120616 2032), (.str ⟨#[957]⟩ 2033)⟩, ⟨120617, (.int 120617 2035), (.str ⟨#[958]⟩ 2036)⟩, ⟨120618, (.int 120618 2038), (.str ⟨#[959]⟩ 2039)⟩, ⟨120619, (.int 120619 2041), (.str ⟨#[960]⟩ 2042)⟩, ⟨120620, (.int 120620 2044), (.str ⟨#[961]⟩ 2045)⟩, ⟨120621, (.int 120621 2047), (.str ⟨#[952]⟩ 2048)⟩, ⟨120622, (.int 120622 2050), (.str ⟨#[963]⟩ 2051)⟩, ⟨120623, (.int 120623 2053), (.str ⟨#[964]⟩ 2054)⟩, ⟨120624, (.int 120624 2056), (.str ⟨#[965]⟩ 2057)⟩, ⟨120625, (.int 120625 2059), (.str ⟨#[966]⟩ 2060)⟩, ⟨120626, (.int 120626 2062), (.str ⟨#[967]⟩ 2063)⟩] 17), #[]⟩
noncomputable def ob_7_84 (P : Params) : Obj := ⟨(.type "dict"), none, (.dict #[⟨120627, (.int 120627 2065), (.str ⟨#[968]⟩ 2066)⟩, ⟨120628, (.int 120628 2068), (.str ⟨#[969]⟩ 2069)⟩, ⟨120647, (.int 120647 2071), (.str ⟨#[963]⟩ 2072)⟩, ⟨120662, (.int 120662 2074), (.str ⟨#[945]⟩ 2075)⟩, ⟨120663, (.int 120663 2077), (.str ⟨#[946]⟩ 2078)⟩, ⟨120664, (.int 120664 2080), (.str ⟨#[947]⟩ 2081)⟩, ⟨120665, (.int 120665 2083), (.str ⟨#[948]⟩ 2084)⟩, ⟨120666, (.int 120666 2086), (.str ⟨#[949]⟩ 2087)⟩, ⟨120667, (.int 120667 2089), (.str ⟨#[950]⟩ 2090)⟩, ⟨120668, (.int 120668 2092), (.str ⟨#[951]⟩ 2093)⟩, ⟨120669, (.int 120669 2095), (.str ⟨#[952]⟩ 2096)⟩, ⟨120670, (.int 120670 2098), (.str ⟨#[953]⟩ 2099)⟩, ⟨120671, (.int 120671 2101), (.str ⟨#[954]⟩ 2102)⟩, ⟨120672, (.int 120672 2104), (.str ⟨#[955]⟩ 2105)⟩, ⟨120673, (.int 120673 2107), (.str ⟨#[956]⟩ 2108)⟩, ⟨120674, (.int 120674 2110), (.str ⟨#[957]⟩ 2111)⟩, ⟨120675, (.int 120675 2113), (.str ⟨#[958]⟩ 2114)⟩] 17), #[]⟩
noncomputable def ob_7_85 (P : Params) : Obj := ⟨(.type "dict"), none, (.dict #[⟨120676, (.int 120676 2116), (.str ⟨#[959]⟩ 2117)⟩, ⟨120677, (.int 120677 2119), (.str ⟨#[960]⟩ 2120)⟩, ⟨120678, (.int 120678 2122), (.str ⟨#[961]⟩ 2123)⟩, ⟨120679, (.int 120679 2125), (.str ⟨#[952]⟩ 2126)⟩, ⟨120680, (.int 120680 2128), (.str ⟨#[963]⟩ 2129)⟩, ⟨120681, (.int 120681 2131), (.str ⟨#[964]⟩ 2132)⟩, ⟨120682, (.int 120682 2134), (.str ⟨#[965]⟩ 2135)⟩, ⟨120683, (.int 120683 2137), (.str ⟨#[966]⟩ 2138)⟩, ⟨120684, (.int 120684 2140), (.str ⟨#[967]⟩ 2141)⟩, ⟨120685, (.int 120685 2143), (.str ⟨#[968]⟩ 2144)⟩, ⟨120686, (.int 120686 2146), (.str ⟨#[969]⟩ 2147)⟩, ⟨120705, (.int 120705 2149), (.str ⟨#[963]⟩ 2150)⟩, ⟨120720, (.int 120720 2152), (.str ⟨#[945]⟩ 2153)⟩, ⟨120721, (.int 120721 2155), (.str ⟨#[946]⟩ 2156)⟩, ⟨120722, (.int 120722 2158), (.str ⟨#[947]⟩ 2159)⟩, ⟨120723, (.int 120723 2161), (.str ⟨#[948]⟩ 2162)⟩, ⟨120724, (.int 120724 2164), (.str ⟨#[949]⟩ 2165)⟩] 17), #[]⟩
noncomputable def ob_7_86 (P : Params) : Obj := ⟨(.type "dict"), none, (.dict #[⟨120725, (.int 120725 2167), (.str ⟨#[950]⟩ 2168)⟩, ⟨120726, (.int 120726 2170), (.str ⟨#[951]⟩ 2171)⟩, ⟨120727, (.int 120727 2173), (.str ⟨#[952]⟩ 2174)⟩, ⟨120728, (.int 120728 2176), (.str ⟨#[953]⟩ 2177)⟩, ⟨120729, (.int 120729 2179), (.str ⟨#[954]⟩ 2180)⟩, ⟨120730, (.int 120730 2182), (.str ⟨#[955]⟩ 2183)⟩, ⟨120731, (.int 120731 2185), (.str ⟨#[956]⟩ 2186)⟩, ⟨120732, (.int 120732 2188), (.str ⟨#[957]⟩ 2189)⟩, ⟨120733, (.int 120733 2191), (.str ⟨#[958]⟩ 2192)⟩, ⟨120734, (.int 120734 2194), (.str ⟨#[959]⟩ 2195)⟩, ⟨120735, (.int 120735 2197), (.str ⟨#[960]⟩ 2198)⟩, ⟨120736, (.int 120736 2200), (.str ⟨#[961]⟩ 2201)⟩, ⟨120737, (.int 120737 2203), (.str ⟨#[952]⟩ 2204)⟩, ⟨120738, (.int 120738 2206), (.str ⟨#[963]⟩ 2207)⟩, ⟨120739, (.int 120739 2209), (.str ⟨#[964]⟩ 2210)⟩, ⟨120740, (.int 120740 2212), (.str ⟨#[965]⟩ 2213)⟩, ⟨120741, (.int 120741 2215), (.str ⟨#[966]⟩ 2216)⟩] 17), #[]⟩
noncomputable def ob_7_87 (P : Params) : Obj := ⟨(.type "dict"), none, (.dict #[⟨120742, (.int 120742 2218), (.str ⟨#[967]⟩ 2219)⟩, ⟨120743, (.int 120743 2220), (.str ⟨#[968]⟩ 2221)⟩, ⟨120744, (.int 120744 2222), (.str ⟨#[969]⟩ 2223)⟩, ⟨120763, (.int 120763 2224), (.str ⟨#[963]⟩ 2225)⟩] 4), #[]⟩
noncomputable def hp_7 (P : Params) : Heap := ⟨#[boot_o_0 P, boot_o_1 P, boot_o_2 P, ob_7_3 P, boot_o_4 P, boot_o_5 P, boot_o_6 P, boot_o_7 P, boot_o_8 P, boot_o_9 P, boot_o_10 P, ob_b_11 P, ob_6_12 P, ob_b_13 P, ob_b_14 P, ob_1_15 P, ob_1_16 P, ob_1_17 P, ob_1_18 P, ob_1_19 P, ob_1_20 P, ob_1_21 P, ob_2_22 P, ob_3_23 P, ob_3_24 P, ob_3_25 P, ob_3_26 P, ob_3_27 P, ob_3_28 P, ob_3_29 P, ob_3_30 P, ob_5_31 P, ob_5_32 P, ob_5_33 P, ob_5_34 P, ob_5_35 P, ob_5_36 P, ob_5_37 P, ob_5_38 P, ob_5_39 P, ob_5_40 P, ob_5_41 P, ob_6_42 P, ob_6_43 P, ob_6_44 P, ob_6_45 P, ob_6_46 P, ob_6_47 P, ob_6_48 P, ob_7_49 P, ob_7_50 P, ob_7_51 P, ob_7_52 P, ob_7_53 P, ob_7_54 P, ob_7_55 P, ob_7_56 P, ob_7_57 P, ob_7_58 P, ob_7_59 P, ob_7_60 P, ob_7_61 P, ob_7_62 P, ob_7_63 P, ob_7_64 P, ob_7_65 P, ob_7_66 P, ob_7_67 P, ob_7_68 P, ob_7_69 P, ob_7_70 P, ob_7_71 P, ob_7_72 P, ob_7_73 P, ob_7_74 P, ob_7_75 P, ob_7_76 P, ob_7_77 P, ob_7_78 P, ob_7_79 P, ob_7_80 P, ob_7_81 P, ob_7_82 P, ob_7_83 P, ob_7_84 P, ob_7_85 P, ob_7_86 P, ob_7_87 P], {}⟩
noncomputable def ob_8_3 (P : Params) : Obj := ⟨(.type "dict"), none, (.dict #[⟨PyData.keyHash P (Str.ofString "__name__"), .str (Str.ofString "__name__") 165, (.str (Str.ofString "cpy313.stringprep") 211)⟩, ⟨PyData.keyHash P (Str.ofString "__doc__"), .str (Str.ofString "__doc__") 166, .none⟩, ⟨PyData.keyHash P (Str.ofString "__package__"), .str (Str.ofString "__package__") 167, .none⟩, ⟨PyData.keyHash P (Str.ofString "__loader__"), .str (Str.ofString "__loader__") 168, (.builtin "__main__.__loader__#opaque")⟩, ⟨PyData.keyHash P (Str.ofString "__spec__"), .str (Str.ofString "__spec__") 169, .none⟩, ⟨PyData.keyHash P (Str.ofString "__annotations__"), .str (Str.ofString "__annotations__") 170, (.ref 6)⟩, ⟨PyData.keyHash P (Str.ofString "__builtins__"), .str (Str.ofString "__builtins__") 171, (.ref 4)⟩, ⟨PyData.keyHash P (Str.ofString "__file__"), .str (Str.ofString "__file__") 173, (.str (Str.ofString "/claim/cut.py") 172)⟩, ⟨PyData.keyHash P (Str.ofString "__cached__"), .str (Str.ofString "__cached__") 174, .none⟩, ⟨PyData.keyHash P (Str.ofString "cmp_to_key"), .str (Str.ofString "cmp_to_key") 197, (.ref 21)⟩, ⟨PyData.keyHash P (Str.ofString "_initial_missing"), .str (Str.ofString "_initial_missing") 198, (.ref 22)⟩, ⟨PyData.keyHash P (Str.ofString "reduce"), .str (Str.ofString "reduce") 210, (.ref 30)⟩, ⟨PyData.keyHash P (Str.ofString "b1_set"), .str (Str.ofString "b1_set") 272, (.ref 38)⟩, ⟨PyData.keyHash P (Str.ofString "in_table_b1"), .str (Str.ofString "in_table_b1") 279, (.ref 48)⟩, ⟨PyData.keyHash P (Str.ofString "b3_exceptions"), .str (Str.ofString "b3_exceptions") 2230, (.ref 49)⟩, ⟨PyData.keyHash P (Str.ofString "map_table_b3"), .str (Str.ofString "map_table_b3") 2238, (.ref 94)⟩] 16), #[]⟩
noncomputable def ob_8_12 (P : Params) : Obj := ⟨.none, none, (.fields #[(.int 2 0), (.int 0 0), (.ref 20), (.int 28 0), (.int 0 0), (.ref 29), (.int 42 0), (.int 0 0), (.ref 47), (.int 45 0), (.int 0 0), (.ref 93)]), #[]⟩
noncomputable def ob_8_88 (P : Params) : Obj := ⟨(.type "tuple"), none, (.seq #[] 0), #[]⟩
noncomputable def ob_8_89 (P : Params) : Obj := ⟨.none, none, (.fields #[]), #[]⟩
noncomputable def ob_8_90 (P : Params) : Obj := ⟨(.type "tuple"), none, (.seq #[(.str (Str.ofString "code") 2234), (.str (Str.ofString "r") 2235)] 0), #[]⟩
noncomputable def ob_8_91 (P : Params) : Obj := ⟨(.type "tuple"), none, (.seq #[] 0), #[]⟩
noncomputable def ob_8_92 (P : Params) : Obj := ⟨.none, none, (.func (fnD 8 .none .none .none 0 .none 0)), #[]⟩
noncomputable def ob_8_93 (P : Params) : Obj := ⟨(.type "code"), none, (.fields #[(.str (Str.ofString "map_table_b3") 2231), (.str (Str.ofString "map_table_b3") 2232), (.str (Str.ofString "/claim/cut.py") 2233), (.int 45 0), (.int 1 0), (.int 0 0), (.int 0 0), (.int 3 0), (.ref 88), (.bool true), (.int 181 0), (.ref 89), .none, (.ref 90), (.ref 91), (.ref 92), (.int 2236 0), (.int 45 0), (.str (Str.ofString "/claim/cut.py") 2237)]), #[]⟩
noncomputable def ob_8_94 (P : Params) : Obj := ⟨(.type "function"), none, (.func (fnD 8 (.ref 93) .none (.str (Str.ofString "cpy313.stringprep") 211) 3 .none 0)), #[]⟩
noncomputable def hp_8 (P : Params) : Heap := ⟨#[boot_o_0 P, boot_o_1 P, boot_o_2 P, ob_8_3 P, boot_o_4 P, boot_o_5 P, boot_o_6 P, boot_o_7 P, boot_o_8 P, boot_o_9 P, boot_o_10 P, ob_b_11 P, ob_8_12 P, ob_b_13 P, ob_b_14 P, ob_1_15 P, ob_1_16 P, ob_1_17 P, ob_1_18 P, ob_1_19 P, ob_1_20 P, ob_1_21 P, ob_2_22 P, ob_3_23 P, ob_3_24 P, ob_3_25 P, ob_3_26 P, ob_3_27 P, ob_3_28 P, ob_3_29 P, ob_3_30 P, ob_5_31 P, ob_5_32 P, ob_5_33 P, ob_5_34 P, ob_5_35 P, ob_5_36 P, ob_5_37 P, ob_5_38 P, ob_5_39 P, ob_5_40 P, ob_5_41 P, ob_6_42 P, ob_6_43 P, ob_6_44 P, ob_6_45 P, ob_6_46 P, ob_6_47 P, ob_6_48 P, ob_7_49 P, ob_7_50 P, ob_7_51 P, ob_7_52 P, ob_7_53 P, ob_7_54 P, ob_7_55 P, ob_7_56 P, ob_7_57 P, ob_7_58 P, ob_7_59 P, ob_7_60 P, ob_7_61 P, ob_7_62 P, ob_7_63 P, ob_7_64 P, ob_7_65 P, ob_7_66 P, ob_7_67 P, ob_7_68 P, ob_7_69 P, ob_7_70 P, ob_7_71 P, ob_7_72 P, ob_7_73 P, ob_7_74 P, ob_7_75 P, ob_7_76 P, ob_7_77 P, ob_7_78 P, ob_7_79 P, ob_7_80 P, ob_7_81 P, ob_7_82 P, ob_7_83 P, ob_7_84 P, ob_7_85 P, ob_7_86 P, ob_7_87 P, ob_8_88 P, ob_8_89 P, ob_8_90 P, ob_8_91 P, ob_8_92 P, ob_8_93 P, ob_8_94 P], {}⟩
noncomputable def ob_9_3 (P : Params) : Obj := ⟨(.type "dict"), none, (.dict #[⟨PyData.keyHash P (Str.ofString "__name__"), .str (Str.ofString "__name__") 165, (.str (Str.ofString "law_pe0222_01") 2239)⟩, ⟨PyData.keyHash P (Str.ofString "__doc__"), .str (Str.ofString "__doc__") 166, .none⟩, ⟨PyData.keyHash P (Str.ofString "__package__"), .str (Str.ofString "__package__") 167, .none⟩, ⟨PyData.keyHash P (Str.ofString "__loader__"), .str (Str.ofString "__loader__") 168, (.builtin "__main__.__loader__#opaque")⟩, ⟨PyData.keyHash P (Str.ofString "__spec__"), .str (Str.ofString "__spec__") 169, .none⟩, ⟨PyData.keyHash P (Str.ofString "__annotations__"), .str (Str.ofString "__annotations__") 170, (.ref 6)⟩, ⟨PyData.keyHash P (Str.ofString "__builtins__"), .str (Str.ofString "__builtins__") 171, (.ref 4)⟩, ⟨PyData.keyHash P (Str.ofString "__file__"), .str (Str.ofString "__file__") 173, (.str (Str.ofString "/claim/cut.py") 172)⟩, ⟨PyData.keyHash P (Str.ofString "__cached__"), .str (Str.ofString "__cached__") 174, .none⟩, ⟨PyData.keyHash P (Str.ofString "cmp_to_key"), .str (Str.ofString "cmp_to_key") 197, (.ref 21)⟩, ⟨PyData.keyHash P (Str.ofString "_initial_missing"), .str (Str.ofString "_initial_missing") 198, (.ref 22)⟩, ⟨PyData.keyHash P (Str.ofString "reduce"), .str (Str.ofString "reduce") 210, (.ref 30)⟩, ⟨PyData.keyHash P (Str.ofString "b1_set"), .str (Str.ofString "b1_set") 272, (.ref 38)⟩, ⟨PyData.keyHash P (Str.ofString "in_table_b1"), .str (Str.ofString "in_table_b1") 279, (.ref 48)⟩, ⟨PyData.keyHash P (Str.ofString "b3_exceptions"), .str (Str.ofString "b3_exceptions") 2230, (.ref 49)⟩, ⟨PyData.keyHash P (Str.ofString "map_table_b3"), .str (Str.ofString "map_table_b3") 2238, (.ref 94)⟩] 16), #[]⟩
noncomputable def hp_9 (P : Params) : Heap := ⟨#[boot_o_0 P, boot_o_1 P, boot_o_2 P, ob_9_3 P, boot_o_4 P, boot_o_5 P, boot_o_6 P, boot_o_7 P, boot_o_8 P, boot_o_9 P, boot_o_10 P, ob_b_11 P, ob_8_12 P, ob_b_13 P, ob_b_14 P, ob_1_15 P, ob_1_16 P, ob_1_17 P, ob_1_18 P, ob_1_19 P, ob_1_20 P, ob_1_21 P, ob_2_22 P, ob_3_23 P, ob_3_24 P, ob_3_25 P, ob_3_26 P, ob_3_27 P, ob_3_28 P, ob_3_29 P, ob_3_30 P, ob_5_31 P, ob_5_32 P, ob_5_33 P, ob_5_34 P, ob_5_35 P, ob_5_36 P, ob_5_37 P, ob_5_38 P, ob_5_39 P, ob_5_40 P, ob_5_41 P, ob_6_42 P, ob_6_43 P, ob_6_44 P, ob_6_45 P, ob_6_46 P, ob_6_47 P, ob_6_48 P, ob_7_49 P, ob_7_50 P, ob_7_51 P, ob_7_52 P, ob_7_53 P, ob_7_54 P, ob_7_55 P, ob_7_56 P, ob_7_57 P, ob_7_58 P, ob_7_59 P, ob_7_60 P, ob_7_61 P, ob_7_62 P, ob_7_63 P, ob_7_64 P, ob_7_65 P, ob_7_66 P, ob_7_67 P, ob_7_68 P, ob_7_69 P, ob_7_70 P, ob_7_71 P, ob_7_72 P, ob_7_73 P, ob_7_74 P, ob_7_75 P, ob_7_76 P, ob_7_77 P, ob_7_78 P, ob_7_79 P, ob_7_80 P, ob_7_81 P, ob_7_82 P, ob_7_83 P, ob_7_84 P, ob_7_85 P, ob_7_86 P, ob_7_87 P, ob_8_88 P, ob_8_89 P, ob_8_90 P, ob_8_91 P, ob_8_92 P, ob_8_93 P, ob_8_94 P], {}⟩
noncomputable def ob_10_3 (P : Params) : Obj := ⟨(.type "dict"), none, (.dict #[⟨PyData.keyHash P (Str.ofString "__name__"), .str (Str.ofString "__name__") 165, (.str (Str.ofString "law_pe0222_01") 2239)⟩, ⟨PyData.keyHash P (Str.ofString "__doc__"), .str (Str.ofString "__doc__") 166, .none⟩, ⟨PyData.keyHash P (Str.ofString "__package__"), .str (Str.ofString "__package__") 167, .none⟩, ⟨PyData.keyHash P (Str.ofString "__loader__"), .str (Str.ofString "__loader__") 168, (.builtin "__main__.__loader__#opaque")⟩, ⟨PyData.keyHash P (Str.ofString "__spec__"), .str (Str.ofString "__spec__") 169, .none⟩, ⟨PyData.keyHash P (Str.ofString "__annotations__"), .str (Str.ofString "__annotations__") 170, (.ref 6)⟩, ⟨PyData.keyHash P (Str.ofString "__builtins__"), .str (Str.ofString "__builtins__") 171, (.ref 4)⟩, ⟨PyData.keyHash P (Str.ofString "__file__"), .str (Str.ofString "__file__") 173, (.str (Str.ofString "/claim/cut.py") 172)⟩, ⟨PyData.keyHash P (Str.ofString "__cached__"), .str (Str.ofString "__cached__") 174, .none⟩, ⟨PyData.keyHash P (Str.ofString "cmp_to_key"), .str (Str.ofString "cmp_to_key") 197, (.ref 21)⟩, ⟨PyData.keyHash P (Str.ofString "_initial_missing"), .str (Str.ofString "_initial_missing") 198, (.ref 22)⟩, ⟨PyData.keyHash P (Str.ofString "reduce"), .str (Str.ofString "reduce") 210, (.ref 30)⟩, ⟨PyData.keyHash P (Str.ofString "b1_set"), .str (Str.ofString "b1_set") 272, (.ref 38)⟩, ⟨PyData.keyHash P (Str.ofString "in_table_b1"), .str (Str.ofString "in_table_b1") 279, (.ref 48)⟩, ⟨PyData.keyHash P (Str.ofString "b3_exceptions"), .str (Str.ofString "b3_exceptions") 2230, (.ref 49)⟩, ⟨PyData.keyHash P (Str.ofString "map_table_b3"), .str (Str.ofString "map_table_b3") 2238, (.ref 94)⟩, ⟨PyData.keyHash P (Str.ofString "_law_text"), .str (Str.ofString "_law_text") 2246, (.ref 99)⟩] 17), #[]⟩
noncomputable def ob_10_12 (P : Params) : Obj := ⟨.none, none, (.fields #[(.int 2 0), (.int 0 0), (.ref 20), (.int 28 0), (.int 0 0), (.ref 29), (.int 42 0), (.int 0 0), (.ref 47), (.int 45 0), (.int 0 0), (.ref 93), (.int 51 0), (.int 0 0), (.ref 98)]), #[]⟩
noncomputable def ob_10_95 (P : Params) : Obj := ⟨(.type "tuple"), none, (.seq #[] 0), #[]⟩
noncomputable def ob_10_96 (P : Params) : Obj := ⟨.none, none, (.fields #[]), #[]⟩
noncomputable def ob_10_97 (P : Params) : Obj := ⟨.none, none, (.func (fnD 10 .none .none .none 0 .none 0)), #[]⟩
noncomputable def ob_10_98 (P : Params) : Obj := ⟨(.type "code"), none, (.fields #[(.str (Str.ofString "_law_text") 2241), (.str (Str.ofString "_law_text") 2242), (.str (Str.ofString "/claim/cut.py") 2243), (.int 51 0), (.int 1 0), (.int 0 0), (.int 0 0), (.int 3 0), (.ref 95), (.bool true), (.int 181 0), (.ref 96), .none, .none, .none, (.ref 97), (.int 2244 0), (.int 51 0), (.str (Str.ofString "/claim/cut.py") 2245)]), #[]⟩
noncomputable def ob_10_99 (P : Params) : Obj := ⟨(.type "function"), none, (.func (fnD 10 (.ref 98) .none (.str (Str.ofString "law_pe0222_01") 2239) 3 .none 0)), #[]⟩
noncomputable def hp_10 (P : Params) : Heap := ⟨#[boot_o_0 P, boot_o_1 P, boot_o_2 P, ob_10_3 P, boot_o_4 P, boot_o_5 P, boot_o_6 P, boot_o_7 P, boot_o_8 P, boot_o_9 P, boot_o_10 P, ob_b_11 P, ob_10_12 P, ob_b_13 P, ob_b_14 P, ob_1_15 P, ob_1_16 P, ob_1_17 P, ob_1_18 P, ob_1_19 P, ob_1_20 P, ob_1_21 P, ob_2_22 P, ob_3_23 P, ob_3_24 P, ob_3_25 P, ob_3_26 P, ob_3_27 P, ob_3_28 P, ob_3_29 P, ob_3_30 P, ob_5_31 P, ob_5_32 P, ob_5_33 P, ob_5_34 P, ob_5_35 P, ob_5_36 P, ob_5_37 P, ob_5_38 P, ob_5_39 P, ob_5_40 P, ob_5_41 P, ob_6_42 P, ob_6_43 P, ob_6_44 P, ob_6_45 P, ob_6_46 P, ob_6_47 P, ob_6_48 P, ob_7_49 P, ob_7_50 P, ob_7_51 P, ob_7_52 P, ob_7_53 P, ob_7_54 P, ob_7_55 P, ob_7_56 P, ob_7_57 P, ob_7_58 P, ob_7_59 P, ob_7_60 P, ob_7_61 P, ob_7_62 P, ob_7_63 P, ob_7_64 P, ob_7_65 P, ob_7_66 P, ob_7_67 P, ob_7_68 P, ob_7_69 P, ob_7_70 P, ob_7_71 P, ob_7_72 P, ob_7_73 P, ob_7_74 P, ob_7_75 P, ob_7_76 P, ob_7_77 P, ob_7_78 P, ob_7_79 P, ob_7_80 P, ob_7_81 P, ob_7_82 P, ob_7_83 P, ob_7_84 P, ob_7_85 P, ob_7_86 P, ob_7_87 P, ob_8_88 P, ob_8_89 P, ob_8_90 P, ob_8_91 P, ob_8_92 P, ob_8_93 P, ob_8_94 P, ob_10_95 P, ob_10_96 P, ob_10_97 P, ob_10_98 P, ob_10_99 P], {}⟩
noncomputable def ob_11_3 (P : Params) : Obj := ⟨(.type "dict"), none, (.dict #[⟨PyData.keyHash P (Str.ofString "__name__"), .str (Str.ofString "__name__") 165, (.str (Str.ofString "law_pe0222_01") 2239)⟩, ⟨PyData.keyHash P (Str.ofString "__doc__"), .str (Str.ofString "__doc__") 166, .none⟩, ⟨PyData.keyHash P (Str.ofString "__package__"), .str (Str.ofString "__package__") 167, .none⟩, ⟨PyData.keyHash P (Str.ofString "__loader__"), .str (Str.ofString "__loader__") 168, (.builtin "__main__.__loader__#opaque")⟩, ⟨PyData.keyHash P (Str.ofString "__spec__"), .str (Str.ofString "__spec__") 169, .none⟩, ⟨PyData.keyHash P (Str.ofString "__annotations__"), .str (Str.ofString "__annotations__") 170, (.ref 6)⟩, ⟨PyData.keyHash P (Str.ofString "__builtins__"), .str (Str.ofString "__builtins__") 171, (.ref 4)⟩, ⟨PyData.keyHash P (Str.ofString "__file__"), .str (Str.ofString "__file__") 173, (.str (Str.ofString "/claim/cut.py") 172)⟩, ⟨PyData.keyHash P (Str.ofString "__cached__"), .str (Str.ofString "__cached__") 174, .none⟩, ⟨PyData.keyHash P (Str.ofString "cmp_to_key"), .str (Str.ofString "cmp_to_key") 197, (.ref 21)⟩, ⟨PyData.keyHash P (Str.ofString "_initial_missing"), .str (Str.ofString "_initial_missing") 198, (.ref 22)⟩, ⟨PyData.keyHash P (Str.ofString "reduce"), .str (Str.ofString "reduce") 210, (.ref 30)⟩, ⟨PyData.keyHash P (Str.ofString "b1_set"), .str (Str.ofString "b1_set") 272, (.ref 38)⟩, ⟨PyData.keyHash P (Str.ofString "in_table_b1"), .str (Str.ofString "in_table_b1") 279, (.ref 48)⟩, ⟨PyData.keyHash P (Str.ofString "b3_exceptions"), .str (Str.ofString "b3_exceptions") 2230, (.ref 49)⟩, ⟨PyData.keyHash P (Str.ofString "map_table_b3"), .str (Str.ofString "map_table_b3") 2238, (.ref 94)⟩, ⟨PyData.keyHash P (Str.ofString "_law_text"), .str (Str.ofString "_law_text") 2246, (.ref 99)⟩, ⟨PyData.keyHash P (Str.ofString "_law_moves"), .str (Str.ofString "_law_moves") 2252, (.ref 106)⟩] 18), #[]⟩
noncomputable def ob_11_12 (P : Params) : Obj := ⟨.none, none, (.fields #[(.int 2 0), (.int 0 0), (.ref 20), (.int 28 0), (.int 0 0), (.ref 29), (.int 42 0), (.int 0 0), (.ref 47), (.int 45 0), (.int 0 0), (.ref 93), (.int 51 0), (.int 0 0), (.ref 98), (.int 54 0), (.int 0 0), (.ref 105)]), #[]⟩
noncomputable def ob_11_100 (P : Params) : Obj := ⟨(.type "tuple"), none, (.seq #[] 0), #[]⟩
noncomputable def ob_11_101 (P : Params) : Obj := ⟨.none, none, (.fields #[]), #[]⟩
noncomputable def ob_11_102 (P : Params) : Obj := ⟨(.type "tuple"), none, (.seq #[] 0), #[]⟩
noncomputable def ob_11_103 (P : Params) : Obj := ⟨(.type "tuple"), none, (.seq #[] 0), #[]⟩
noncomputable def ob_11_104 (P : Params) : Obj := ⟨.none, none, (.func (fnD 11 .none .none .none 0 .none 0)), #[]⟩
noncomputable def ob_11_105 (P : Params) : Obj := ⟨(.type "code"), none, (.fields #[(.str (Str.ofString "_law_moves") 2247), (.str (Str.ofString "_law_moves") 2248), (.str (Str.ofString "/claim/cut.py") 2249), (.int 54 0), (.int 0 0), (.int 0 0), (.int 0 0), (.int 3 0), (.ref 100), (.bool true), (.int 181 0), (.ref 101), .none, (.ref 102), (.ref 103), (.ref 104), (.int 2250 0), (.int 54 0), (.str (Str.ofString "/claim/cut.py") 2251)]), #[]⟩
noncomputable def ob_11_106 (P : Params) : Obj := ⟨(.type "function"), none, (.func (fnD 11 (.ref 105) .none (.str (Str.ofString "law_pe0222_01") 2239) 3 .none 0)), #[]⟩
noncomputable def hp_11 (P : Params) : Heap := ⟨#[boot_o_0 P, boot_o_1 P, boot_o_2 P, ob_11_3 P, boot_o_4 P, boot_o_5 P, boot_o_6 P, boot_o_7 P, boot_o_8 P, boot_o_9 P, boot_o_10 P, ob_b_11 P, ob_11_12 P, ob_b_13 P, ob_b_14 P, ob_1_15 P, ob_1_16 P, ob_1_17 P, ob_1_18 P, ob_1_19 P, ob_1_20 P, ob_1_21 P, ob_2_22 P, ob_3_23 P, ob_3_24 P, ob_3_25 P, ob_3_26 P, ob_3_27 P, ob_3_28 P, ob_3_29 P, ob_3_30 P, ob_5_31 P, ob_5_32 P, ob_5_33 P, ob_5_34 P, ob_5_35 P, ob_5_36 P, ob_5_37 P, ob_5_38 P, ob_5_39 P, ob_5_40 P, ob_5_41 P, ob_6_42 P, ob_6_43 P, ob_6_44 P, ob_6_45 P, ob_6_46 P, ob_6_47 P, ob_6_48 P, ob_7_49 P, ob_7_50 P, ob_7_51 P, ob_7_52 P, ob_7_53 P, ob_7_54 P, ob_7_55 P, ob_7_56 P, ob_7_57 P, ob_7_58 P, ob_7_59 P, ob_7_60 P, ob_7_61 P, ob_7_62 P, ob_7_63 P, ob_7_64 P, ob_7_65 P, ob_7_66 P, ob_7_67 P, ob_7_68 P, ob_7_69 P, ob_7_70 P, ob_7_71 P, ob_7_72 P, ob_7_73 P, ob_7_74 P, ob_7_75 P, ob_7_76 P, ob_7_77 P, ob_7_78 P, ob_7_79 P, ob_7_80 P, ob_7_81 P, ob_7_82 P, ob_7_83 P, ob_7_84 P, ob_7_85 P, ob_7_86 P, ob_7_87 P, ob_8_88 P, ob_8_89 P, ob_8_90 P, ob_8_91 P, ob_8_92 P, ob_8_93 P, ob_8_94 P, ob_10_95 P, ob_10_96 P, ob_10_97 P, ob_10_98 P, ob_10_99 P, ob_11_100 P, ob_11_101 P, ob_11_102 P, ob_11_103 P, ob_11_104 P, ob_11_105 P, ob_11_106 P], {}⟩
noncomputable def ob_12_3 (P : Params) : Obj := ⟨(.type "dict"), none, (.dict #[⟨PyData.keyHash P (Str.ofString "__name__"), .str (Str.ofString "__name__") 165, (.str (Str.ofString "law_pe0222_01") 2239)⟩, ⟨PyData.keyHash P (Str.ofString "__doc__"), .str (Str.ofString "__doc__") 166, .none⟩, ⟨PyData.keyHash P (Str.ofString "__package__"), .str (Str.ofString "__package__") 167, .none⟩, ⟨PyData.keyHash P (Str.ofString "__loader__"), .str (Str.ofString "__loader__") 168, (.builtin "__main__.__loader__#opaque")⟩, ⟨PyData.keyHash P (Str.ofString "__spec__"), .str (Str.ofString "__spec__") 169, .none⟩, ⟨PyData.keyHash P (Str.ofString "__annotations__"), .str (Str.ofString "__annotations__") 170, (.ref 6)⟩, ⟨PyData.keyHash P (Str.ofString "__builtins__"), .str (Str.ofString "__builtins__") 171, (.ref 4)⟩, ⟨PyData.keyHash P (Str.ofString "__file__"), .str (Str.ofString "__file__") 173, (.str (Str.ofString "/claim/cut.py") 172)⟩, ⟨PyData.keyHash P (Str.ofString "__cached__"), .str (Str.ofString "__cached__") 174, .none⟩, ⟨PyData.keyHash P (Str.ofString "cmp_to_key"), .str (Str.ofString "cmp_to_key") 197, (.ref 21)⟩, ⟨PyData.keyHash P (Str.ofString "_initial_missing"), .str (Str.ofString "_initial_missing") 198, (.ref 22)⟩, ⟨PyData.keyHash P (Str.ofString "reduce"), .str (Str.ofString "reduce") 210, (.ref 30)⟩, ⟨PyData.keyHash P (Str.ofString "b1_set"), .str (Str.ofString "b1_set") 272, (.ref 38)⟩, ⟨PyData.keyHash P (Str.ofString "in_table_b1"), .str (Str.ofString "in_table_b1") 279, (.ref 48)⟩, ⟨PyData.keyHash P (Str.ofString "b3_exceptions"), .str (Str.ofString "b3_exceptions") 2230, (.ref 49)⟩, ⟨PyData.keyHash P (Str.ofString "map_table_b3"), .str (Str.ofString "map_table_b3") 2238, (.ref 94)⟩, ⟨PyData.keyHash P (Str.ofString "_law_text"), .str (Str.ofString "_law_text") 2246, (.ref 99)⟩, ⟨PyData.keyHash P (Str.ofString "_law_moves"), .str (Str.ofString "_law_moves") 2252, (.ref 106)⟩, ⟨PyData.keyHash P (Str.ofString "_law_joined"), .str (Str.ofString "_law_joined") 2258, (.ref 111)⟩] 19), #[]⟩
noncomputable def ob_12_12 (P : Params) : Obj := ⟨.none, none, (.fields #[(.int 2 0), (.int 0 0), (.ref 20), (.int 28 0), (.int 0 0), (.ref 29), (.int 42 0), (.int 0 0), (.ref 47), (.int 45 0), (.int 0 0), (.ref 93), (.int 51 0), (.int 0 0), (.ref 98), (.int 54 0), (.int 0 0), (.ref 105), (.int 56 0), (.int 0 0), (.ref 110)]), #[]⟩
noncomputable def ob_12_107 (P : Params) : Obj := ⟨(.type "tuple"), none, (.seq #[] 0), #[]⟩
noncomputable def ob_12_108 (P : Params) : Obj := ⟨.none, none, (.fields #[]), #[]⟩
noncomputable def ob_12_109 (P : Params) : Obj := ⟨.none, none, (.func (fnD 12 .none .none .none 0 .none 0)), #[]⟩
noncomputable def ob_12_110 (P : Params) : Obj := ⟨(.type "code"), none, (.fields #[(.str (Str.ofString "_law_joined") 2253), (.str (Str.ofString "_law_joined") 2254), (.str (Str.ofString "/claim/cut.py") 2255), (.int 56 0), (.int 2 0), (.int 0 0), (.int 0 0), (.int 3 0), (.ref 107), (.bool true), (.int 181 0), (.ref 108), .none, .none, .none, (.ref 109), (.int 2256 0), (.int 56 0), (.str (Str.ofString "/claim/cut.py") 2257)]), #[]⟩
noncomputable def ob_12_111 (P : Params) : Obj := ⟨(.type "function"), none, (.func (fnD 12 (.ref 110) .none (.str (Str.ofString "law_pe0222_01") 2239) 3 .none 0)), #[]⟩
noncomputable def hp_12 (P : Params) : Heap := ⟨#[boot_o_0 P, boot_o_1 P, boot_o_2 P, ob_12_3 P, boot_o_4 P, boot_o_5 P, boot_o_6 P, boot_o_7 P, boot_o_8 P, boot_o_9 P, boot_o_10 P, ob_b_11 P, ob_12_12 P, ob_b_13 P, ob_b_14 P, ob_1_15 P, ob_1_16 P, ob_1_17 P, ob_1_18 P, ob_1_19 P, ob_1_20 P, ob_1_21 P, ob_2_22 P, ob_3_23 P, ob_3_24 P, ob_3_25 P, ob_3_26 P, ob_3_27 P, ob_3_28 P, ob_3_29 P, ob_3_30 P, ob_5_31 P, ob_5_32 P, ob_5_33 P, ob_5_34 P, ob_5_35 P, ob_5_36 P, ob_5_37 P, ob_5_38 P, ob_5_39 P, ob_5_40 P, ob_5_41 P, ob_6_42 P, ob_6_43 P, ob_6_44 P, ob_6_45 P, ob_6_46 P, ob_6_47 P, ob_6_48 P, ob_7_49 P, ob_7_50 P, ob_7_51 P, ob_7_52 P, ob_7_53 P, ob_7_54 P, ob_7_55 P, ob_7_56 P, ob_7_57 P, ob_7_58 P, ob_7_59 P, ob_7_60 P, ob_7_61 P, ob_7_62 P, ob_7_63 P, ob_7_64 P, ob_7_65 P, ob_7_66 P, ob_7_67 P, ob_7_68 P, ob_7_69 P, ob_7_70 P, ob_7_71 P, ob_7_72 P, ob_7_73 P, ob_7_74 P, ob_7_75 P, ob_7_76 P, ob_7_77 P, ob_7_78 P, ob_7_79 P, ob_7_80 P, ob_7_81 P, ob_7_82 P, ob_7_83 P, ob_7_84 P, ob_7_85 P, ob_7_86 P, ob_7_87 P, ob_8_88 P, ob_8_89 P, ob_8_90 P, ob_8_91 P, ob_8_92 P, ob_8_93 P, ob_8_94 P, ob_10_95 P, ob_10_96 P, ob_10_97 P, ob_10_98 P, ob_10_99 P, ob_11_100 P, ob_11_101 P, ob_11_102 P, ob_11_103 P, ob_11_104 P, ob_11_105 P, ob_11_106 P, ob_12_107 P, ob_12_108 P, ob_12_109 P, ob_12_110 P, ob_12_111 P], {}⟩
noncomputable def ob_13_3 (P : Params) : Obj := ⟨(.type "dict"), none, (.dict #[⟨PyData.keyHash P (Str.ofString "__name__"), .str (Str.ofString "__name__") 165, (.str (Str.ofString "law_pe0222_01") 2239)⟩, ⟨PyData.keyHash P (Str.ofString "__doc__"), .str (Str.ofString "__doc__") 166, .none⟩, ⟨PyData.keyHash P (Str.ofString "__package__"), .str (Str.ofString "__package__") 167, .none⟩, ⟨PyData.keyHash P (Str.ofString "__loader__"), .str (Str.ofString "__loader__") 168, (.builtin "__main__.__loader__#opaque")⟩, ⟨PyData.keyHash P (Str.ofString "__spec__"), .str (Str.ofString "__spec__") 169, .none⟩, ⟨PyData.keyHash P (Str.ofString "__annotations__"), .str (Str.ofString "__annotations__") 170, (.ref 6)⟩, ⟨PyData.keyHash P (Str.ofString "__builtins__"), .str (Str.ofString "__builtins__") 171, (.ref 4)⟩, ⟨PyData.keyHash P (Str.ofString "__file__"), .str (Str.ofString "__file__") 173, (.str (Str.ofString "/claim/cut.py") 172)⟩, ⟨PyData.keyHash P (Str.ofString "__cached__"), .str (Str.ofString "__cached__") 174, .none⟩, ⟨PyData.keyHash P (Str.ofString "cmp_to_key"), .str (Str.ofString "cmp_to_key") 197, (.ref 21)⟩, ⟨PyData.keyHash P (Str.ofString "_initial_missing"), .str (Str.ofString "_initial_missing") 198, (.ref 22)⟩, ⟨PyData.keyHash P (Str.ofString "reduce"), .str (Str.ofString "reduce") 210, (.ref 30)⟩, ⟨PyData.keyHash P (Str.ofString "b1_set"), .str (Str.ofString "b1_set") 272, (.ref 38)⟩, ⟨PyData.keyHash P (Str.ofString "in_table_b1"), .str (Str.ofString "in_table_b1") 279, (.ref 48)⟩, ⟨PyData.keyHash P (Str.ofString "b3_exceptions"), .str (Str.ofString "b3_exceptions") 2230, (.ref 49)⟩, ⟨PyData.keyHash P (Str.ofString "map_table_b3"), .str (Str.ofString "map_table_b3") 2238, (.ref 94)⟩, ⟨PyData.keyHash P (Str.ofString "_law_text"), .str (Str.ofString "_law_text") 2246, (.ref 99)⟩, ⟨PyData.keyHash P (Str.ofString "_law_moves"), .str (Str.ofString "_law_moves") 2252, (.ref 106)⟩, ⟨PyData.keyHash P (Str.ofString "_law_joined"), .str (Str.ofString "_law_joined") 2258, (.ref 111)⟩, ⟨PyData.keyHash P (Str.ofString "_law_deed"), .str (Str.ofString "_law_deed") 2267, (.ref 118)⟩] 20), #[]⟩
noncomputable def ob_13_12 (P : Params) : Obj := ⟨.none, none, (.fields #[(.int 2 0), (.int 0 0), (.ref 20), (.int 28 0), (.int 0 0), (.ref 29), (.int 42 0), (.int 0 0), (.ref 47), (.int 45 0), (.int 0 0), (.ref 93), (.int 51 0), (.int 0 0), (.ref 98), (.int 54 0), (.int 0 0), (.ref 105), (.int 56 0), (.int 0 0), (.ref 110), (.int 58 0), (.int 0 0), (.ref 117)]), #[]⟩
noncomputable def ob_13_112 (P : Params) : Obj := ⟨(.type "tuple"), none, (.seq #[] 0), #[]⟩
noncomputable def ob_13_113 (P : Params) : Obj := ⟨.none, none, (.fields #[]), #[]⟩
noncomputable def ob_13_114 (P : Params) : Obj := ⟨(.type "tuple"), none, (.seq #[(.str (Str.ofString "row") 2262), (.str (Str.ofString "sign") 2263)] 0), #[]⟩
noncomputable def ob_13_115 (P : Params) : Obj := ⟨(.type "tuple"), none, (.seq #[(.str (Str.ofString "moves") 2264)] 0), #[]⟩
noncomputable def ob_13_116 (P : Params) : Obj := ⟨.none, none, (.func (fnD 13 .none .none .none 0 .none 0)), #[]⟩
noncomputable def ob_13_117 (P : Params) : Obj := ⟨(.type "code"), none, (.fields #[(.str (Str.ofString "_law_deed") 2259), (.str (Str.ofString "_law_deed") 2260), (.str (Str.ofString "/claim/cut.py") 2261), (.int 58 0), (.int 2 0), (.int 0 0), (.int 0 0), (.int 3 0), (.ref 112), (.bool true), (.int 181 0), (.ref 113), .none, (.ref 114), (.ref 115), (.ref 116), (.int 2265 0), (.int 58 0), (.str (Str.ofString "/claim/cut.py") 2266)]), #[]⟩
noncomputable def ob_13_118 (P : Params) : Obj := ⟨(.type "function"), none, (.func (fnD 13 (.ref 117) .none (.str (Str.ofString "law_pe0222_01") 2239) 3 .none 0)), #[]⟩
noncomputable def hp_13 (P : Params) : Heap := ⟨#[boot_o_0 P, boot_o_1 P, boot_o_2 P, ob_13_3 P, boot_o_4 P, boot_o_5 P, boot_o_6 P, boot_o_7 P, boot_o_8 P, boot_o_9 P, boot_o_10 P, ob_b_11 P, ob_13_12 P, ob_b_13 P, ob_b_14 P, ob_1_15 P, ob_1_16 P, ob_1_17 P, ob_1_18 P, ob_1_19 P, ob_1_20 P, ob_1_21 P, ob_2_22 P, ob_3_23 P, ob_3_24 P, ob_3_25 P, ob_3_26 P, ob_3_27 P, ob_3_28 P, ob_3_29 P, ob_3_30 P, ob_5_31 P, ob_5_32 P, ob_5_33 P, ob_5_34 P, ob_5_35 P, ob_5_36 P, ob_5_37 P, ob_5_38 P, ob_5_39 P, ob_5_40 P, ob_5_41 P, ob_6_42 P, ob_6_43 P, ob_6_44 P, ob_6_45 P, ob_6_46 P, ob_6_47 P, ob_6_48 P, ob_7_49 P, ob_7_50 P, ob_7_51 P, ob_7_52 P, ob_7_53 P, ob_7_54 P, ob_7_55 P, ob_7_56 P, ob_7_57 P, ob_7_58 P, ob_7_59 P, ob_7_60 P, ob_7_61 P, ob_7_62 P, ob_7_63 P, ob_7_64 P, ob_7_65 P, ob_7_66 P, ob_7_67 P, ob_7_68 P, ob_7_69 P, ob_7_70 P, ob_7_71 P, ob_7_72 P, ob_7_73 P, ob_7_74 P, ob_7_75 P, ob_7_76 P, ob_7_77 P, ob_7_78 P, ob_7_79 P, ob_7_80 P, ob_7_81 P, ob_7_82 P, ob_7_83 P, ob_7_84 P, ob_7_85 P, ob_7_86 P, ob_7_87 P, ob_8_88 P, ob_8_89 P, ob_8_90 P, ob_8_91 P, ob_8_92 P, ob_8_93 P, ob_8_94 P, ob_10_95 P, ob_10_96 P, ob_10_97 P, ob_10_98 P, ob_10_99 P, ob_11_100 P, ob_11_101 P, ob_11_102 P, ob_11_103 P, ob_11_104 P, ob_11_105 P, ob_11_106 P, ob_12_107 P, ob_12_108 P, ob_12_109 P, ob_12_110 P, ob_12_111 P, ob_13_112 P, ob_13_113 P, ob_13_114 P, ob_13_115 P, ob_13_116 P, ob_13_117 P, ob_13_118 P], {}⟩
noncomputable def ob_14_3 (P : Params) : Obj := ⟨(.type "dict"), none, (.dict #[⟨PyData.keyHash P (Str.ofString "__name__"), .str (Str.ofString "__name__") 165, (.str (Str.ofString "law_pe0222_01") 2239)⟩, ⟨PyData.keyHash P (Str.ofString "__doc__"), .str (Str.ofString "__doc__") 166, .none⟩, ⟨PyData.keyHash P (Str.ofString "__package__"), .str (Str.ofString "__package__") 167, .none⟩, ⟨PyData.keyHash P (Str.ofString "__loader__"), .str (Str.ofString "__loader__") 168, (.builtin "__main__.__loader__#opaque")⟩, ⟨PyData.keyHash P (Str.ofString "__spec__"), .str (Str.ofString "__spec__") 169, .none⟩, ⟨PyData.keyHash P (Str.ofString "__annotations__"), .str (Str.ofString "__annotations__") 170, (.ref 6)⟩, ⟨PyData.keyHash P (Str.ofString "__builtins__"), .str (Str.ofString "__builtins__") 171, (.ref 4)⟩, ⟨PyData.keyHash P (Str.ofString "__file__"), .str (Str.ofString "__file__") 173, (.str (Str.ofString "/claim/cut.py") 172)⟩, ⟨PyData.keyHash P (Str.ofString "__cached__"), .str (Str.ofString "__cached__") 174, .none⟩, ⟨PyData.keyHash P (Str.ofString "cmp_to_key"), .str (Str.ofString "cmp_to_key") 197, (.ref 21)⟩, ⟨PyData.keyHash P (Str.ofString "_initial_missing"), .str (Str.ofString "_initial_missing") 198, (.ref 22)⟩, ⟨PyData.keyHash P (Str.ofString "reduce"), .str (Str.ofString "reduce") 210, (.ref 30)⟩, ⟨PyData.keyHash P (Str.ofString "b1_set"), .str (Str.ofString "b1_set") 272, (.ref 38)⟩, ⟨PyData.keyHash P (Str.ofString "in_table_b1"), .str (Str.ofString "in_table_b1") 279, (.ref 48)⟩, ⟨PyData.keyHash P (Str.ofString "b3_exceptions"), .str (Str.ofString "b3_exceptions") 2230, (.ref 49)⟩, ⟨PyData.keyHash P (Str.ofString "map_table_b3"), .str (Str.ofString "map_table_b3") 2238, (.ref 94)⟩, ⟨PyData.keyHash P (Str.ofString "_law_text"), .str (Str.ofString "_law_text") 2246, (.ref 99)⟩, ⟨PyData.keyHash P (Str.ofString "_law_moves"), .str (Str.ofString "_law_moves") 2252, (.ref 106)⟩, ⟨PyData.keyHash P (Str.ofString "_law_joined"), .str (Str.ofString "_law_joined") 2258, (.ref 111)⟩, ⟨PyData.keyHash P (Str.ofString "_law_deed"), .str (Str.ofString "_law_deed") 2267, (.ref 118)⟩, ⟨PyData.keyHash P (Str.ofString "_law_compared"), .str (Str.ofString "_law_compared") 2276, (.ref 125)⟩] 21), #[]⟩
noncomputable def ob_14_12 (P : Params) : Obj := ⟨.none, none, (.fields #[(.int 2 0), (.int 0 0), (.ref 20), (.int 28 0), (.int 0 0), (.ref 29), (.int 42 0), (.int 0 0), (.ref 47), (.int 45 0), (.int 0 0), (.ref 93), (.int 51 0), (.int 0 0), (.ref 98), (.int 54 0), (.int 0 0), (.ref 105), (.int 56 0), (.int 0 0), (.ref 110), (.int 58 0), (.int 0 0), (.ref 117), (.int 63 0), (.int 0 0), (.ref 124)]), #[]⟩
noncomputable def ob_14_119 (P : Params) : Obj := ⟨(.type "tuple"), none, (.seq #[] 0), #[]⟩
noncomputable def ob_14_120 (P : Params) : Obj := ⟨.none, none, (.fields #[]), #[]⟩
noncomputable def ob_14_121 (P : Params) : Obj := ⟨(.type "tuple"), none, (.seq #[(.str (Str.ofString "one") 2271), (.str (Str.ofString "other") 2272), (.str (Str.ofString "place") 2273)] 0), #[]⟩
noncomputable def ob_14_122 (P : Params) : Obj := ⟨(.type "tuple"), none, (.seq #[] 0), #[]⟩
noncomputable def ob_14_123 (P : Params) : Obj := ⟨.none, none, (.func (fnD 14 .none .none .none 0 .none 0)), #[]⟩
noncomputable def ob_14_124 (P : Params) : Obj := ⟨(.type "code"), none, (.fields #[(.str (Str.ofString "_law_compared") 2268), (.str (Str.ofString "_law_compared") 2269), (.str (Str.ofString "/claim/cut.py") 2270), (.int 63 0), (.int 2 0), (.int 0 0), (.int 0 0), (.int 3 0), (.ref 119), (.bool true), (.int 181 0), (.ref 120), .none, (.ref 121), (.ref 122), (.ref 123), (.int 2274 0), (.int 63 0), (.str (Str.ofString "/claim/cut.py") 2275)]), #[]⟩
noncomputable def ob_14_125 (P : Params) : Obj := ⟨(.type "function"), none, (.func (fnD 14 (.ref 124) .none (.str (Str.ofString "law_pe0222_01") 2239) 3 .none 0)), #[]⟩
noncomputable def hp_14 (P : Params) : Heap := ⟨#[boot_o_0 P, boot_o_1 P, boot_o_2 P, ob_14_3 P, boot_o_4 P, boot_o_5 P, boot_o_6 P, boot_o_7 P, boot_o_8 P, boot_o_9 P, boot_o_10 P, ob_b_11 P, ob_14_12 P, ob_b_13 P, ob_b_14 P, ob_1_15 P, ob_1_16 P, ob_1_17 P, ob_1_18 P, ob_1_19 P, ob_1_20 P, ob_1_21 P, ob_2_22 P, ob_3_23 P, ob_3_24 P, ob_3_25 P, ob_3_26 P, ob_3_27 P, ob_3_28 P, ob_3_29 P, ob_3_30 P, ob_5_31 P, ob_5_32 P, ob_5_33 P, ob_5_34 P, ob_5_35 P, ob_5_36 P, ob_5_37 P, ob_5_38 P, ob_5_39 P, ob_5_40 P, ob_5_41 P, ob_6_42 P, ob_6_43 P, ob_6_44 P, ob_6_45 P, ob_6_46 P, ob_6_47 P, ob_6_48 P, ob_7_49 P, ob_7_50 P, ob_7_51 P, ob_7_52 P, ob_7_53 P, ob_7_54 P, ob_7_55 P, ob_7_56 P, ob_7_57 P, ob_7_58 P, ob_7_59 P, ob_7_60 P, ob_7_61 P, ob_7_62 P, ob_7_63 P, ob_7_64 P, ob_7_65 P, ob_7_66 P, ob_7_67 P, ob_7_68 P, ob_7_69 P, ob_7_70 P, ob_7_71 P, ob_7_72 P, ob_7_73 P, ob_7_74 P, ob_7_75 P, ob_7_76 P, ob_7_77 P, ob_7_78 P, ob_7_79 P, ob_7_80 P, ob_7_81 P, ob_7_82 P, ob_7_83 P, ob_7_84 P, ob_7_85 P, ob_7_86 P, ob_7_87 P, ob_8_88 P, ob_8_89 P, ob_8_90 P, ob_8_91 P, ob_8_92 P, ob_8_93 P, ob_8_94 P, ob_10_95 P, ob_10_96 P, ob_10_97 P, ob_10_98 P, ob_10_99 P, ob_11_100 P, ob_11_101 P, ob_11_102 P, ob_11_103 P, ob_11_104 P, ob_11_105 P, ob_11_106 P, ob_12_107 P, ob_12_108 P, ob_12_109 P, ob_12_110 P, ob_12_111 P, ob_13_112 P, ob_13_113 P, ob_13_114 P, ob_13_115 P, ob_13_116 P, ob_13_117 P, ob_13_118 P, ob_14_119 P, ob_14_120 P, ob_14_121 P, ob_14_122 P, ob_14_123 P, ob_14_124 P, ob_14_125 P], {}⟩
noncomputable def ob_15_3 (P : Params) : Obj := ⟨(.type "dict"), none, (.dict #[⟨PyData.keyHash P (Str.ofString "__name__"), .str (Str.ofString "__name__") 165, (.str (Str.ofString "law_pe0222_01") 2239)⟩, ⟨PyData.keyHash P (Str.ofString "__doc__"), .str (Str.ofString "__doc__") 166, .none⟩, ⟨PyData.keyHash P (Str.ofString "__package__"), .str (Str.ofString "__package__") 167, .none⟩, ⟨PyData.keyHash P (Str.ofString "__loader__"), .str (Str.ofString "__loader__") 168, (.builtin "__main__.__loader__#opaque")⟩, ⟨PyData.keyHash P (Str.ofString "__spec__"), .str (Str.ofString "__spec__") 169, .none⟩, ⟨PyData.keyHash P (Str.ofString "__annotations__"), .str (Str.ofString "__annotations__") 170, (.ref 6)⟩, ⟨PyData.keyHash P (Str.ofString "__builtins__"), .str (Str.ofString "__builtins__") 171, (.ref 4)⟩, ⟨PyData.keyHash P (Str.ofString "__file__"), .str (Str.ofString "__file__") 173, (.str (Str.ofString "/claim/cut.py") 172)⟩, ⟨PyData.keyHash P (Str.ofString "__cached__"), .str (Str.ofString "__cached__") 174, .none⟩, ⟨PyData.keyHash P (Str.ofString "cmp_to_key"), .str (Str.ofString "cmp_to_key") 197, (.ref 21)⟩, ⟨PyData.keyHash P (Str.ofString "_initial_missing"), .str (Str.ofString "_initial_missing") 198, (.ref 22)⟩, ⟨PyData.keyHash P (Str.ofString "reduce"), .str (Str.ofString "reduce") 210, (.ref 30)⟩, ⟨PyData.keyHash P (Str.ofString "b1_set"), .str (Str.ofString "b1_set") 272, (.ref 38)⟩, ⟨PyData.keyHash P (Str.ofString "in_table_b1"), .str (Str.ofString "in_table_b1") 279, (.ref 48)⟩, ⟨PyData.keyHash P (Str.ofString "b3_exceptions"), .str (Str.ofString "b3_exceptions") 2230, (.ref 49)⟩, ⟨PyData.keyHash P (Str.ofString "map_table_b3"), .str (Str.ofString "map_table_b3") 2238, (.ref 94)⟩, ⟨PyData.keyHash P (Str.ofString "_law_text"), .str (Str.ofString "_law_text") 2246, (.ref 99)⟩, ⟨PyData.keyHash P (Str.ofString "_law_moves"), .str (Str.ofString "_law_moves") 2252, (.ref 106)⟩, ⟨PyData.keyHash P (Str.ofString "_law_joined"), .str (Str.ofString "_law_joined") 2258, (.ref 111)⟩, ⟨PyData.keyHash P (Str.ofString "_law_deed"), .str (Str.ofString "_law_deed") 2267, (.ref 118)⟩, ⟨PyData.keyHash P (Str.ofString "_law_compared"), .str (Str.ofString "_law_compared") 2276, (.ref 125)⟩, ⟨PyData.keyHash P (Str.ofString "_law_told"), .str (Str.ofString "_law_told") 2282, (.ref 130)⟩] 22), #[]⟩
noncomputable def ob_15_12 (P : Params) : Obj := ⟨.none, none, (.fields #[(.int 2 0), (.int 0 0), (.ref 20), (.int 28 0), (.int 0 0), (.ref 29), (.int 42 0), (.int 0 0), (.ref 47), (.int 45 0), (.int 0 0), (.ref 93), (.int 51 0), (.int 0 0), (.ref 98), (.int 54 0), (.int 0 0), (.ref 105), (.int 56 0), (.int 0 0), (.ref 110), (.int 58 0), (.int 0 0), (.ref 117), (.int 63 0), (.int 0 0), (.ref 124), (.int 68 0), (.int 0 0), (.ref 129)]), #[]⟩
noncomputable def ob_15_126 (P : Params) : Obj := ⟨(.type "tuple"), none, (.seq #[] 0), #[]⟩
noncomputable def ob_15_127 (P : Params) : Obj := ⟨.none, none, (.fields #[]), #[]⟩
noncomputable def ob_15_128 (P : Params) : Obj := ⟨.none, none, (.func (fnD 15 .none .none .none 0 .none 0)), #[]⟩
noncomputable def ob_15_129 (P : Params) : Obj := ⟨(.type "code"), none, (.fields #[(.str (Str.ofString "_law_told") 2277), (.str (Str.ofString "_law_told") 2278), (.str (Str.ofString "/claim/cut.py") 2279), (.int 68 0), (.int 1 0), (.int 0 0), (.int 0 0), (.int 3 0), (.ref 126), (.bool true), (.int 181 0), (.ref 127), .none, .none, .none, (.ref 128), (.int 2280 0), (.int 68 0), (.str (Str.ofString "/claim/cut.py") 2281)]), #[]⟩
noncomputable def ob_15_130 (P : Params) : Obj := ⟨(.type "function"), none, (.func (fnD 15 (.ref 129) .none (.str (Str.ofString "law_pe0222_01") 2239) 3 .none 0)), #[]⟩
noncomputable def hp_15 (P : Params) : Heap := ⟨#[boot_o_0 P, boot_o_1 P, boot_o_2 P, ob_15_3 P, boot_o_4 P, boot_o_5 P, boot_o_6 P, boot_o_7 P, boot_o_8 P, boot_o_9 P, boot_o_10 P, ob_b_11 P, ob_15_12 P, ob_b_13 P, ob_b_14 P, ob_1_15 P, ob_1_16 P, ob_1_17 P, ob_1_18 P, ob_1_19 P, ob_1_20 P, ob_1_21 P, ob_2_22 P, ob_3_23 P, ob_3_24 P, ob_3_25 P, ob_3_26 P, ob_3_27 P, ob_3_28 P, ob_3_29 P, ob_3_30 P, ob_5_31 P, ob_5_32 P, ob_5_33 P, ob_5_34 P, ob_5_35 P, ob_5_36 P, ob_5_37 P, ob_5_38 P, ob_5_39 P, ob_5_40 P, ob_5_41 P, ob_6_42 P, ob_6_43 P, ob_6_44 P, ob_6_45 P, ob_6_46 P, ob_6_47 P, ob_6_48 P, ob_7_49 P, ob_7_50 P, ob_7_51 P, ob_7_52 P, ob_7_53 P, ob_7_54 P, ob_7_55 P, ob_7_56 P, ob_7_57 P, ob_7_58 P, ob_7_59 P, ob_7_60 P, ob_7_61 P, ob_7_62 P, ob_7_63 P, ob_7_64 P, ob_7_65 P, ob_7_66 P, ob_7_67 P, ob_7_68 P, ob_7_69 P, ob_7_70 P, ob_7_71 P, ob_7_72 P, ob_7_73 P, ob_7_74 P, ob_7_75 P, ob_7_76 P, ob_7_77 P, ob_7_78 P, ob_7_79 P, ob_7_80 P, ob_7_81 P, ob_7_82 P, ob_7_83 P, ob_7_84 P, ob_7_85 P, ob_7_86 P, ob_7_87 P, ob_8_88 P, ob_8_89 P, ob_8_90 P, ob_8_91 P, ob_8_92 P, ob_8_93 P, ob_8_94 P, ob_10_95 P, ob_10_96 P, ob_10_97 P, ob_10_98 P, ob_10_99 P, ob_11_100 P, ob_11_101 P, ob_11_102 P, ob_11_103 P, ob_11_104 P, ob_11_105 P, ob_11_106 P, ob_12_107 P, ob_12_108 P, ob_12_109 P, ob_12_110 P, ob_12_111 P, ob_13_112 P, ob_13_113 P, ob_13_114 P, ob_13_115 P, ob_13_116 P, ob_13_117 P, ob_13_118 P, ob_14_119 P, ob_14_120 P, ob_14_121 P, ob_14_122 P, ob_14_123 P, ob_14_124 P, ob_14_125 P, ob_15_126 P, ob_15_127 P, ob_15_128 P, ob_15_129 P, ob_15_130 P], {}⟩
noncomputable def ob_16_3 (P : Params) : Obj := ⟨(.type "dict"), none, (.dict #[⟨PyData.keyHash P (Str.ofString "__name__"), .str (Str.ofString "__name__") 165, (.str (Str.ofString "law_pe0222_01") 2239)⟩, ⟨PyData.keyHash P (Str.ofString "__doc__"), .str (Str.ofString "__doc__") 166, .none⟩, ⟨PyData.keyHash P (Str.ofString "__package__"), .str (Str.ofString "__package__") 167, .none⟩, ⟨PyData.keyHash P (Str.ofString "__loader__"), .str (Str.ofString "__loader__") 168, (.builtin "__main__.__loader__#opaque")⟩, ⟨PyData.keyHash P (Str.ofString "__spec__"), .str (Str.ofString "__spec__") 169, .none⟩, ⟨PyData.keyHash P (Str.ofString "__annotations__"), .str (Str.ofString "__annotations__") 170, (.ref 6)⟩, ⟨PyData.keyHash P (Str.ofString "__builtins__"), .str (Str.ofString "__builtins__") 171, (.ref 4)⟩, ⟨PyData.keyHash P (Str.ofString "__file__"), .str (Str.ofString "__file__") 173, (.str (Str.ofString "/claim/cut.py") 172)⟩, ⟨PyData.keyHash P (Str.ofString "__cached__"), .str (Str.ofString "__cached__") 174, .none⟩, ⟨PyData.keyHash P (Str.ofString "cmp_to_key"), .str (Str.ofString "cmp_to_key") 197, (.ref 21)⟩, ⟨PyData.keyHash P (Str.ofString "_initial_missing"), .str (Str.ofString "_initial_missing") 198, (.ref 22)⟩, ⟨PyData.keyHash P (Str.ofString "reduce"), .str (Str.ofString "reduce") 210, (.ref 30)⟩, ⟨PyData.keyHash P (Str.ofString "b1_set"), .str (Str.ofString "b1_set") 272, (.ref 38)⟩, ⟨PyData.keyHash P (Str.ofString "in_table_b1"), .str (Str.ofString "in_table_b1") 279, (.ref 48)⟩, ⟨PyData.keyHash P (Str.ofString "b3_exceptions"), .str (Str.ofString "b3_exceptions") 2230, (.ref 49)⟩, ⟨PyData.keyHash P (Str.ofString "map_table_b3"), .str (Str.ofString "map_table_b3") 2238, (.ref 94)⟩, ⟨PyData.keyHash P (Str.ofString "_law_text"), .str (Str.ofString "_law_text") 2246, (.ref 99)⟩, ⟨PyData.keyHash P (Str.ofString "_law_moves"), .str (Str.ofString "_law_moves") 2252, (.ref 106)⟩, ⟨PyData.keyHash P (Str.ofString "_law_joined"), .str (Str.ofString "_law_joined") 2258, (.ref 111)⟩, ⟨PyData.keyHash P (Str.ofString "_law_deed"), .str (Str.ofString "_law_deed") 2267, (.ref 118)⟩, ⟨PyData.keyHash P (Str.ofString "_law_compared"), .str (Str.ofString "_law_compared") 2276, (.ref 125)⟩, ⟨PyData.keyHash P (Str.ofString "_law_told"), .str (Str.ofString "_law_told") 2282, (.ref 130)⟩, ⟨PyData.keyHash P (Str.ofString "_law_due"), .str (Str.ofString "_law_due") 2288, (.ref 135)⟩] 23), #[]⟩
noncomputable def ob_16_12 (P : Params) : Obj := ⟨.none, none, (.fields #[(.int 2 0), (.int 0 0), (.ref 20), (.int 28 0), (.int 0 0), (.ref 29), (.int 42 0), (.int 0 0), (.ref 47), (.int 45 0), (.int 0 0), (.ref 93), (.int 51 0), (.int 0 0), (.ref 98), (.int 54 0), (.int 0 0), (.ref 105), (.int 56 0), (.int 0 0), (.ref 110), (.int 58 0), (.int 0 0), (.ref 117), (.int 63 0), (.int 0 0), (.ref 124), (.int 68 0), (.int 0 0), (.ref 129), (.int 84 0), (.int 0 0), (.ref 134)]), #[]⟩
noncomputable def ob_16_131 (P : Params) : Obj := ⟨(.type "tuple"), none, (.seq #[] 0), #[]⟩
noncomputable def ob_16_132 (P : Params) : Obj := ⟨.none, none, (.fields #[]), #[]⟩
noncomputable def ob_16_133 (P : Params) : Obj := ⟨.none, none, (.func (fnD 16 .none .none .none 0 .none 0)), #[]⟩
noncomputable def ob_16_134 (P : Params) : Obj := ⟨(.type "code"), none, (.fields #[(.str (Str.ofString "_law_due") 2283), (.str (Str.ofString "_law_due") 2284), (.str (Str.ofString "/claim/cut.py") 2285), (.int 84 0), (.int 1 0), (.int 0 0), (.int 0 0), (.int 3 0), (.ref 131), (.bool true), (.int 181 0), (.ref 132), .none, .none, .none, (.ref 133), (.int 2286 0), (.int 84 0), (.str (Str.ofString "/claim/cut.py") 2287)]), #[]⟩
noncomputable def ob_16_135 (P : Params) : Obj := ⟨(.type "function"), none, (.func (fnD 16 (.ref 134) .none (.str (Str.ofString "law_pe0222_01") 2239) 3 .none 0)), #[]⟩
noncomputable def hp_16 (P : Params) : Heap := ⟨#[boot_o_0 P, boot_o_1 P, boot_o_2 P, ob_16_3 P, boot_o_4 P, boot_o_5 P, boot_o_6 P, boot_o_7 P, boot_o_8 P, boot_o_9 P, boot_o_10 P, ob_b_11 P, ob_16_12 P, ob_b_13 P, ob_b_14 P, ob_1_15 P, ob_1_16 P, ob_1_17 P, ob_1_18 P, ob_1_19 P, ob_1_20 P, ob_1_21 P, ob_2_22 P, ob_3_23 P, ob_3_24 P, ob_3_25 P, ob_3_26 P, ob_3_27 P, ob_3_28 P, ob_3_29 P, ob_3_30 P, ob_5_31 P, ob_5_32 P, ob_5_33 P, ob_5_34 P, ob_5_35 P, ob_5_36 P, ob_5_37 P, ob_5_38 P, ob_5_39 P, ob_5_40 P, ob_5_41 P, ob_6_42 P, ob_6_43 P, ob_6_44 P, ob_6_45 P, ob_6_46 P, ob_6_47 P, ob_6_48 P, ob_7_49 P, ob_7_50 P, ob_7_51 P, ob_7_52 P, ob_7_53 P, ob_7_54 P, ob_7_55 P, ob_7_56 P, ob_7_57 P, ob_7_58 P, ob_7_59 P, ob_7_60 P, ob_7_61 P, ob_7_62 P, ob_7_63 P, ob_7_64 P, ob_7_65 P, ob_7_66 P, ob_7_67 P, ob_7_68 P, ob_7_69 P, ob_7_70 P, ob_7_71 P, ob_7_72 P, ob_7_73 P, ob_7_74 P, ob_7_75 P, ob_7_76 P, ob_7_77 P, ob_7_78 P, ob_7_79 P, ob_7_80 P, ob_7_81 P, ob_7_82 P, ob_7_83 P, ob_7_84 P, ob_7_85 P, ob_7_86 P, ob_7_87 P, ob_8_88 P, ob_8_89 P, ob_8_90 P, ob_8_91 P, ob_8_92 P, ob_8_93 P, ob_8_94 P, ob_10_95 P, ob_10_96 P, ob_10_97 P, ob_10_98 P, ob_10_99 P, ob_11_100 P, ob_11_101 P, ob_11_102 P, ob_11_103 P, ob_11_104 P, ob_11_105 P, ob_11_106 P, ob_12_107 P, ob_12_108 P, ob_12_109 P, ob_12_110 P, ob_12_111 P, ob_13_112 P, ob_13_113 P, ob_13_114 P, ob_13_115 P, ob_13_116 P, ob_13_117 P, ob_13_118 P, ob_14_119 P, ob_14_120 P, ob_14_121 P, ob_14_122 P, ob_14_123 P, ob_14_124 P, ob_14_125 P, ob_15_126 P, ob_15_127 P, ob_15_128 P, ob_15_129 P, ob_15_130 P, ob_16_131 P, ob_16_132 P, ob_16_133 P, ob_16_134 P, ob_16_135 P], {}⟩
noncomputable def ob_17_3 (P : Params) : Obj := ⟨(.type "dict"), none, (.dict #[⟨PyData.keyHash P (Str.ofString "__name__"), .str (Str.ofString "__name__") 165, (.str (Str.ofString "law_pe0222_01") 2239)⟩, ⟨PyData.keyHash P (Str.ofString "__doc__"), .str (Str.ofString "__doc__") 166, .none⟩, ⟨PyData.keyHash P (Str.ofString "__package__"), .str (Str.ofString "__package__") 167, .none⟩, ⟨PyData.keyHash P (Str.ofString "__loader__"), .str (Str.ofString "__loader__") 168, (.builtin "__main__.__loader__#opaque")⟩, ⟨PyData.keyHash P (Str.ofString "__spec__"), .str (Str.ofString "__spec__") 169, .none⟩, ⟨PyData.keyHash P (Str.ofString "__annotations__"), .str (Str.ofString "__annotations__") 170, (.ref 6)⟩, ⟨PyData.keyHash P (Str.ofString "__builtins__"), .str (Str.ofString "__builtins__") 171, (.ref 4)⟩, ⟨PyData.keyHash P (Str.ofString "__file__"), .str (Str.ofString "__file__") 173, (.str (Str.ofString "/claim/cut.py") 172)⟩, ⟨PyData.keyHash P (Str.ofString "__cached__"), .str (Str.ofString "__cached__") 174, .none⟩, ⟨PyData.keyHash P (Str.ofString "cmp_to_key"), .str (Str.ofString "cmp_to_key") 197, (.ref 21)⟩, ⟨PyData.keyHash P (Str.ofString "_initial_missing"), .str (Str.ofString "_initial_missing") 198, (.ref 22)⟩, ⟨PyData.keyHash P (Str.ofString "reduce"), .str (Str.ofString "reduce") 210, (.ref 30)⟩, ⟨PyData.keyHash P (Str.ofString "b1_set"), .str (Str.ofString "b1_set") 272, (.ref 38)⟩, ⟨PyData.keyHash P (Str.ofString "in_table_b1"), .str (Str.ofString "in_table_b1") 279, (.ref 48)⟩, ⟨PyData.keyHash P (Str.ofString "b3_exceptions"), .str (Str.ofString "b3_exceptions") 2230, (.ref 49)⟩, ⟨PyData.keyHash P (Str.ofString "map_table_b3"), .str (Str.ofString "map_table_b3") 2238, (.ref 94)⟩, ⟨PyData.keyHash P (Str.ofString "_law_text"), .str (Str.ofString "_law_text") 2246, (.ref 99)⟩, ⟨PyData.keyHash P (Str.ofString "_law_moves"), .str (Str.ofString "_law_moves") 2252, (.ref 106)⟩, ⟨PyData.keyHash P (Str.ofString "_law_joined"), .str (Str.ofString "_law_joined") 2258, (.ref 111)⟩, ⟨PyData.keyHash P (Str.ofString "_law_deed"), .str (Str.ofString "_law_deed") 2267, (.ref 118)⟩, ⟨PyData.keyHash P (Str.ofString "_law_compared"), .str (Str.ofString "_law_compared") 2276, (.ref 125)⟩, ⟨PyData.keyHash P (Str.ofString "_law_told"), .str (Str.ofString "_law_told") 2282, (.ref 130)⟩, ⟨PyData.keyHash P (Str.ofString "_law_due"), .str (Str.ofString "_law_due") 2288, (.ref 135)⟩, ⟨PyData.keyHash P (Str.ofString "law"), .str (Str.ofString "law") 2296, (.ref 142)⟩] 24), #[]⟩
noncomputable def ob_17_12 (P : Params) : Obj := ⟨.none, none, (.fields #[(.int 2 0), (.int 0 0), (.ref 20), (.int 28 0), (.int 0 0), (.ref 29), (.int 42 0), (.int 0 0), (.ref 47), (.int 45 0), (.int 0 0), (.ref 93), (.int 51 0), (.int 0 0), (.ref 98), (.int 54 0), (.int 0 0), (.ref 105), (.int 56 0), (.int 0 0), (.ref 110), (.int 58 0), (.int 0 0), (.ref 117), (.int 63 0), (.int 0 0), (.ref 124), (.int 68 0), (.int 0 0), (.ref 129), (.int 84 0), (.int 0 0), (.ref 134), (.int 105 0), (.int 0 0), (.ref 141)]), #[]⟩
noncomputable def ob_17_136 (P : Params) : Obj := ⟨(.type "tuple"), none, (.seq #[] 0), #[]⟩
noncomputable def ob_17_137 (P : Params) : Obj := ⟨.none, none, (.fields #[]), #[]⟩
noncomputable def ob_17_138 (P : Params) : Obj := ⟨(.type "tuple"), none, (.seq #[(.str (Str.ofString "script") 2292), (.str (Str.ofString "numbers") 2293)] 0), #[]⟩
noncomputable def ob_17_139 (P : Params) : Obj := ⟨(.type "tuple"), none, (.seq #[] 0), #[]⟩
noncomputable def ob_17_140 (P : Params) : Obj := ⟨.none, none, (.func (fnD 17 .none .none .none 0 .none 0)), #[]⟩
noncomputable def ob_17_141 (P : Params) : Obj := ⟨(.type "code"), none, (.fields #[(.str (Str.ofString "law") 2289), (.str (Str.ofString "law") 2290), (.str (Str.ofString "/claim/cut.py") 2291), (.int 105 0), (.int 1 0), (.int 0 0), (.int 0 0), (.int 3 0), (.ref 136), (.bool true), (.int 181 0), (.ref 137), .none, (.ref 138), (.ref 139), (.ref 140), (.int 2294 0), (.int 105 0), (.str (Str.ofString "/claim/cut.py") 2295)]), #[]⟩
noncomputable def ob_17_142 (P : Params) : Obj := ⟨(.type "function"), none, (.func (fnD 17 (.ref 141) .none (.str (Str.ofString "law_pe0222_01") 2239) 3 .none 0)), #[]⟩
noncomputable def hp_17 (P : Params) : Heap := ⟨#[boot_o_0 P, boot_o_1 P, boot_o_2 P, ob_17_3 P, boot_o_4 P, boot_o_5 P, boot_o_6 P, boot_o_7 P, boot_o_8 P, boot_o_9 P, boot_o_10 P, ob_b_11 P, ob_17_12 P, ob_b_13 P, ob_b_14 P, ob_1_15 P, ob_1_16 P, ob_1_17 P, ob_1_18 P, ob_1_19 P, ob_1_20 P, ob_1_21 P, ob_2_22 P, ob_3_23 P, ob_3_24 P, ob_3_25 P, ob_3_26 P, ob_3_27 P, ob_3_28 P, ob_3_29 P, ob_3_30 P, ob_5_31 P, ob_5_32 P, ob_5_33 P, ob_5_34 P, ob_5_35 P, ob_5_36 P, ob_5_37 P, ob_5_38 P, ob_5_39 P, ob_5_40 P, ob_5_41 P, ob_6_42 P, ob_6_43 P, ob_6_44 P, ob_6_45 P, ob_6_46 P, ob_6_47 P, ob_6_48 P, ob_7_49 P, ob_7_50 P, ob_7_51 P, ob_7_52 P, ob_7_53 P, ob_7_54 P, ob_7_55 P, ob_7_56 P, ob_7_57 P, ob_7_58 P, ob_7_59 P, ob_7_60 P, ob_7_61 P, ob_7_62 P, ob_7_63 P, ob_7_64 P, ob_7_65 P, ob_7_66 P, ob_7_67 P, ob_7_68 P, ob_7_69 P, ob_7_70 P, ob_7_71 P, ob_7_72 P, ob_7_73 P, ob_7_74 P, ob_7_75 P, ob_7_76 P, ob_7_77 P, ob_7_78 P, ob_7_79 P, ob_7_80 P, ob_7_81 P, ob_7_82 P, ob_7_83 P, ob_7_84 P, ob_7_85 P, ob_7_86 P, ob_7_87 P, ob_8_88 P, ob_8_89 P, ob_8_90 P, ob_8_91 P, ob_8_92 P, ob_8_93 P, ob_8_94 P, ob_10_95 P, ob_10_96 P, ob_10_97 P, ob_10_98 P, ob_10_99 P, ob_11_100 P, ob_11_101 P, ob_11_102 P, ob_11_103 P, ob_11_104 P, ob_11_105 P, ob_11_106 P, ob_12_107 P, ob_12_108 P, ob_12_109 P, ob_12_110 P, ob_12_111 P, ob_13_112 P, ob_13_113 P, ob_13_114 P, ob_13_115 P, ob_13_116 P, ob_13_117 P, ob_13_118 P, ob_14_119 P, ob_14_120 P, ob_14_121 P, ob_14_122 P, ob_14_123 P, ob_14_124 P, ob_14_125 P, ob_15_126 P, ob_15_127 P, ob_15_128 P, ob_15_129 P, ob_15_130 P, ob_16_131 P, ob_16_132 P, ob_16_133 P, ob_16_134 P, ob_16_135 P, ob_17_136 P, ob_17_137 P, ob_17_138 P, ob_17_139 P, ob_17_140 P, ob_17_141 P, ob_17_142 P], {}⟩
end Mine
end

section
open PySem PySem.W PySem.Calls PyProof.Rows
set_option maxRecDepth 100000
set_option linter.unusedVariables false
namespace Mine
noncomputable def bodyT : List Stmt := behindTheImports prg
noncomputable def envT : Env := { scope := prg.main.scope, locals := mainNs, globals := mainNs, cells := [], code := .ref 13, frame := some 14 }
noncomputable abbrev cT : Code := .body bodyT envT
noncomputable abbrev fT : List Frame := [topFrame ⟨0, 0, 0, 0⟩]
/-- the fast twins of the run and of the statements -/
noncomputable abbrev segQ := PySem.W.Fast.tw14374325043358763698 PySem.W.Fast.tw14364793385576792824
noncomputable abbrev thQ (l : List Stmt) (p : Pos) : Thread := ⟨(PySem.W.Fast.tw12563942051412417395 l envT).wrap doneF deadEnd id id, cT, p, fT⟩
theorem seg_quick {w : World} {n : Nat} {s : Shared} {l : List Stmt} {p : Pos} {r : Option (Flow × Shared × Code × Pos)} (h : segQ prg w 11 (some (.ref 6)) 1 n s (thQ l p) = r) : segRun treeTable prg w 11 (some (.ref 6)) 1 n s (piecesOf l envT cT p fT) = r := by
  rw [← h]
  unfold segQ thQ
  rw [← PySem.W.Fast.te14374325043358763698, ← PySem.W.Fast.te14364793385576792824, ← PySem.W.Fast.te12563942051412417395]
/-- a statement's run -/
noncomputable def Pc (w : World) (st : Stmt) (n : Nat) (h : Params → Heap) (k : Nat) (p : Pos) (h' : Params → Heap) (k' : Nat) (p' : Pos) : Prop :=
  (fun os => segRun treeTable prg w 11 (some (.ref 6)) 1 n ⟨h w.params, #[], {}, k, os⟩ (piecesOf [st] envT cT p fT)) = fun os => some (.next, ⟨h' w.params, #[], {}, k', os⟩, cT, p')
theorem pc_quick {w : World} {st : Stmt} {n : Nat} {h : Params → Heap} {k : Nat} {p : Pos} {h' : Params → Heap} {k' : Nat} {p' : Pos}
    (e : (fun os => segQ prg w 11 (some (.ref 6)) 1 n ⟨h w.params, #[], {}, k, os⟩ (thQ [st] p)) = fun os => some (.next, ⟨h' w.params, #[], {}, k', os⟩, cT, p')) : Pc w st n h k p h' k' p' := by
  funext os
  exact seg_quick (congrFun e os)
end Mine
end

section
open PySem PySem.W PySem.Calls PyProof.Rows
set_option maxRecDepth 100000
set_option linter.unusedVariables false
namespace Mine
theorem pc_0 (w : World) : Pc w (stm 0) 10 hp_b 187 ⟨0, 0, 0, 0⟩ hp_0 189 ⟨1, 0, 1, 8⟩ := pc_quick (by kernel_rfl)
theorem pc_1 (w : World) : Pc w (stm 1) 32 hp_0 189 ⟨1, 0, 1, 8⟩ hp_1 198 ⟨2, 0, 26, 12⟩ := pc_quick (by kernel_rfl)
theorem pc_2 (w : World) : Pc w (stm 2) 27 hp_1 198 ⟨2, 0, 26, 12⟩ hp_2 199 ⟨27, 0, 27, 16⟩ := pc_quick (by kernel_rfl)
theorem pc_3 (w : World) : Pc w (stm 3) 38 hp_2 199 ⟨27, 0, 27, 16⟩ hp_3 211 ⟨28, 0, 39, 16⟩ := pc_quick (by kernel_rfl)
theorem pc_4 (w : World) : Pc w (stm 4) 10 hp_3 211 ⟨28, 0, 39, 16⟩ hp_4 213 ⟨40, 0, 40, 8⟩ := pc_quick (by kernel_rfl)
theorem pc_6 (w : World) : Pc w (stm 6) 30 hp_5 273 ⟨41, 0, 41, 6⟩ hp_6 280 ⟨42, 0, 43, 30⟩ := pc_quick (by kernel_rfl)
theorem pc_8 (w : World) : Pc w (stm 8) 31 hp_7 2231 ⟨44, 0, 44, 13⟩ hp_8 2239 ⟨45, 0, 49, 23⟩ := pc_quick (by kernel_rfl)
theorem pc_9 (w : World) : Pc w (stm 9) 10 hp_8 2239 ⟨45, 0, 49, 23⟩ hp_9 2241 ⟨50, 0, 50, 8⟩ := pc_quick (by kernel_rfl)
theorem pc_10 (w : World) : Pc w (stm 10) 27 hp_9 2241 ⟨50, 0, 50, 8⟩ hp_10 2247 ⟨51, 0, 53, 69⟩ := pc_quick (by kernel_rfl)
theorem pc_11 (w : World) : Pc w (stm 11) 29 hp_10 2247 ⟨51, 0, 53, 69⟩ hp_11 2253 ⟨54, 0, 55, 121⟩ := pc_quick (by kernel_rfl)
theorem pc_12 (w : World) : Pc w (stm 12) 27 hp_11 2253 ⟨54, 0, 55, 121⟩ hp_12 2259 ⟨56, 0, 57, 42⟩ := pc_quick (by kernel_rfl)
theorem pc_13 (w : World) : Pc w (stm 13) 32 hp_12 2259 ⟨56, 0, 57, 42⟩ hp_13 2268 ⟨58, 0, 62, 101⟩ := pc_quick (by kernel_rfl)
theorem pc_14 (w : World) : Pc w (stm 14) 32 hp_13 2268 ⟨58, 0, 62, 101⟩ hp_14 2277 ⟨63, 0, 67, 12⟩ := pc_quick (by kernel_rfl)
theorem pc_15 (w : World) : Pc w (stm 15) 27 hp_14 2277 ⟨63, 0, 67, 12⟩ hp_15 2283 ⟨68, 0, 83, 66⟩ := pc_quick (by kernel_rfl)
theorem pc_16 (w : World) : Pc w (stm 16) 27 hp_15 2283 ⟨68, 0, 83, 66⟩ hp_16 2289 ⟨84, 0, 104, 48⟩ := pc_quick (by kernel_rfl)
theorem pc_17 (w : World) : Pc w (stm 17) 31 hp_16 2289 ⟨84, 0, 104, 48⟩ hp_17 2297 ⟨105, 0, 107, 50⟩ := pc_quick (by kernel_rfl)
theorem pc_5a (w : World) : Pc (w.withFollow "special-get-raises" true) (stm 5) 999 hp_4 213 ⟨40, 0, 40, 8⟩ hp_5 273 ⟨41, 0, 41, 6⟩ := pc_quick (by kernel_rfl)
theorem pc_5b (w : World) : Pc (w.withFollow "special-get-raises" false) (stm 5) 999 hp_4 213 ⟨40, 0, 40, 8⟩ hp_5 273 ⟨41, 0, 41, 6⟩ := pc_quick (by kernel_rfl)
theorem pc_5 (w : World) : Pc w (stm 5) 999 hp_4 213 ⟨40, 0, 40, 8⟩ hp_5 273 ⟨41, 0, 41, 6⟩ :=
  byRow2 "special-get-raises" (P := fun w => Pc w (stm 5) 999 hp_4 213 ⟨40, 0, 40, 8⟩ hp_5 273 ⟨41, 0, 41, 6⟩) (fun w => pc_5b w) (fun w => pc_5a w) w
end Mine
end

section
open PySem PySem.W PySem.Calls PyProof.Rows
set_option maxRecDepth 100000
set_option linter.unusedVariables false
namespace Mine
theorem seg_add {tb : String → Option Builtin} {p : Program} {w : World} {n₀ : Nat} {ann : Option Value} {b : Nat} : ∀ {n k : Nat} {s s' : Shared} {t t' : Thread} {r : Option (Shared × Thread)}, segGo tb p w n₀ ann b n s t = some (s', t') →
    segGo tb p w n₀ ann b k s' t' = r → segGo tb p w n₀ ann b (n + k) s t = r
  | 0, k, s, s', t, t', r, h, e => by
    obtain ⟨rfl, rfl⟩ : s = s' ∧ t = t' := by simpa [segGo] using h
    rw [Nat.zero_add]; exact e
  | n + 1, k, s, s', t, t', r, h, e => by
    rw [show n + 1 + k = n + k + 1 by omega]
    unfold segGo at h ⊢
    cases he : endAt b t with
    | some f => rw [he] at h; cases h
    | none =>
      rw [he] at h
      cases hk : stepOk n₀ ann t with
      | false => rw [hk] at h; cases h
      | true =>
        rw [hk] at h
        cases hs : step (denote tb) p w s t with
        | halt o s₂ => rw [hs] at h; cases h
        | go s₂ t₂ => rw [hs] at h; exact seg_add h e
theorem seg_one {tb : String → Option Builtin} {p : Program} {w : World} {n₀ : Nat} {ann : Option Value} {b : Nat} {s s' : Shared} {t t' : Thread} (he : endAt b t = none) (hk : stepOk n₀ ann t = true) (hs : step (denote tb) p w s t = .go s' t') :
    segGo tb p w n₀ ann b 1 s t = some (s', t') := by
  unfold segGo
  rw [he, hk, hs]
  rfl
/-- a tree's run, at the top, behind any rest -/
noncomputable def Ru (w : World) (n : Nat) (s : Shared) (p : Pos) {α : Type} (m : Sem α) (a : α) (s' : Shared) (p' : Pos) : Prop :=
  ∀ (K : α → Sem PySem.Fin) (H : Value → Sem PySem.Fin) (gd : Bool → Bool) (lv : List Value → List Value),
    segGo treeTable prg w 11 (some (.ref 6)) 1 n s ⟨m.wrap K H gd lv, cT, p, fT⟩ = some (s', ⟨K a, cT, p', fT⟩)
noncomputable def Rb (w : World) (N : Nat) (s : Shared) (p : Pos) {α : Type} (m : Sem α) (a : α) (s' : Shared) (p' : Pos) : Prop := ∃ n, n ≤ N ∧ Ru w n s p m a s' p'
section
variable {w : World} {α β : Type} {s s' s'' : Shared} {p p' p'' : Pos} {m : Sem α} {a : α} {f : α → Sem β} {b : β} {N N' : Nat}
theorem Rb.pure : Rb w 0 s p (Pure.pure a : Sem α) a s p := ⟨0, Nat.le_refl _, fun _ _ _ _ => rfl⟩
theorem Rb.bind (x : Rb w N s p m a s' p') (y : Rb w N' s' p' (f a) b s'' p'') : Rb w (N + N') s p (m >>= f) b s'' p'' := by
  obtain ⟨n, hn, x⟩ := x
  obtain ⟨k, hk, y⟩ := y
  refine ⟨n + k, by omega, fun K H gd lv => ?_⟩
  rw [Sem.bind_eq_wrap', Sem.wrap_wrap]
  exact seg_add (x _ _ _ _) (y K H gd lv)
theorem Rb.le (x : Rb w N s p m a s' p') (h : N ≤ N') : Rb w N' s p m a s' p' := let ⟨n, hn, x⟩ := x; ⟨n, Nat.le_trans hn h, x⟩
theorem Rb.keep (vs : List Value) (x : Rb w N s p m a s' p') : Rb w N s p (m.keep vs) a s' p' := by
  obtain ⟨n, hn, x⟩ := x
  refine ⟨n, hn, fun K H gd lv => ?_⟩
  rw [Sem.keep_eq_wrap, Sem.wrap_wrap]
  exact x K _ _ _
theorem Rb.hold (vs : List Value) (x : Rb w N s p m a s' p') : Rb w N s p (holding vs m) a s' p' := by
  unfold holding
  split
  · exact x
  · exact x.keep _
theorem Rb.onRaise (h : Value → Sem Unit) (x : Rb w N s p m a s' p') : Rb w N s p (m.onRaise h) a s' p' := by
  obtain ⟨n, hn, x⟩ := x
  refine ⟨n, hn, fun K H gd lv => ?_⟩
  rw [Sem.onRaise_eq_wrap, Sem.wrap_wrap]
  exact x K _ _ _
theorem Rb.load {ad : Addr} {part : Option Value} {o : Obj} (h : s.heap.get? ad = some o) : Rb w 1 s p (loadPart ad part) o s p := ⟨1, Nat.le_refl _, fun K H gd lv => by
  refine seg_one rfl rfl ?_
  obtain ⟨hp, g, d, tk, os⟩ := s
  have h : hp.get? ad = some o := h
  show step _ _ _ _ ⟨.load ad part fun o => K o, cT, p, fT⟩ = _
  simp only [step, h]⟩
theorem Rb.upd {ad : Addr} {part : Option Value} {f : Obj → Obj} {o : Obj} (h : s.heap.get? ad = some o) (hl : 11 ≤ ad) : Rb w 1 s p (updatePart ad part f) () { s with heap := s.heap.update ad f } p := ⟨1, Nat.le_refl _, fun K H gd lv => by
  refine seg_one rfl ?_ ?_
  · show (Nat.ble 11 ad || _ || _ || _) = true
    rw [Nat.ble_eq_true_of_le hl]; rfl
  · obtain ⟨hp, g, d, tk, os⟩ := s
    have h : hp.get? ad = some o := h
    show step _ _ _ _ ⟨.update ad part f fun _ => K (), cT, p, fT⟩ = _
    simp only [step, h, Option.isSome_some, if_true]⟩
theorem Rb.alloc {o : Obj} : Rb w 1 s p (PySem.alloc o) s.heap.objs.size { s with heap := s.heap.push o } p := ⟨1, Nat.le_refl _, fun K H gd lv => seg_one rfl rfl rfl⟩
theorem Rb.fresh : Rb w 1 s p PySem.fresh s.toks { s with toks := s.toks + 1 } p := ⟨1, Nat.le_refl _, fun K H gd lv => seg_one rfl rfl rfl⟩
theorem Rb.tag {t : String} : Rb w 1 s p (rule t) () s p := ⟨1, Nat.le_refl _, fun K H gd lv => seg_one rfl rfl rfl⟩
theorem Rb.stand {q : Pos} : Rb w 1 s p (standAt q) () s q := ⟨1, Nat.le_refl _, fun K H gd lv => seg_one rfl rfl rfl⟩
theorem Rb.eq {m' : Sem α} (e : m = m') (x : Rb w N s p m' a s' p') : Rb w N s p m a s' p' := e ▸ x
end
end Mine
namespace Mine
noncomputable abbrev segGoQ := PySem.W.Fast.tw3277212676724774461 PySem.W.Fast.tw14364793385576792824
section
variable {w : World} {s : Shared} {p : Pos}
theorem Rb.hashCall {k : Int} {t : Tok} {refuse : Sem Value} : ∀ (w : World) (h : Heap) (g : Array GenState) (d : Drawn) (tk : Nat) (os : OsState), Rb w 5 ⟨h, g, d, tk, os⟩ p (callSpecialIfBoundUnlessNone? (.int k t) "__hash__" refuse) (some (.int (rawHash k) tk)) ⟨h, g, d, tk + 1, os⟩ p := by
  have key : ∀ (b : Bool) (w : World) (h : Heap) (g : Array GenState) (d : Drawn) (tk : Nat) (os : OsState) (K : Option Value → Sem PySem.Fin) (H : Value → Sem PySem.Fin) (gd : Bool → Bool) (lv : List Value → List Value),
      segGoQ prg (w.withFollow "special-get-raises" b) 11 (some (.ref 6)) 1 5 ⟨h, g, d, tk, os⟩ ⟨(PySem.W.Fast.tw16697807410369149715 (.int k t) "__hash__" refuse).wrap K H gd lv, cT, p, fT⟩ = some (⟨h, g, d, tk + 1, os⟩, ⟨K (some (.int (rawHash k) tk)), cT, p, fT⟩) := by
    intro b
    cases b
    · intros; kernel_rfl
    · intros; kernel_rfl
  have key2 : ∀ (b : Bool) (w : World) (h : Heap) (g : Array GenState) (d : Drawn) (tk : Nat) (os : OsState), Rb (w.withFollow "special-get-raises" b) 5 ⟨h, g, d, tk, os⟩ p (callSpecialIfBoundUnlessNone? (.int k t) "__hash__" refuse) (some (.int (rawHash k) tk)) ⟨h, g, d, tk + 1, os⟩ p := fun b w h g d tk os => ⟨5, Nat.le_refl _, fun K H gd lv => by
    have := key b w h g d tk os K H gd lv
    unfold segGoQ at this
    rw [← PySem.W.Fast.te3277212676724774461, ← PySem.W.Fast.te14364793385576792824, ← PySem.W.Fast.te16697807410369149715] at this
    exact this⟩
  exact fun w => byRow2 "special-get-raises" (P := fun w => ∀ (h : Heap) (g : Array GenState) (d : Drawn) (tk : Nat) (os : OsState), Rb w 5 ⟨h, g, d, tk, os⟩ p (callSpecialIfBoundUnlessNone? (.int k t) "__hash__" refuse) (some (.int (rawHash k) tk)) ⟨h, g, d, tk + 1, os⟩ p) (key2 false) (key2 true) w
theorem special_hash (k : Int) (t : Tok) : specialOf (.int k t) "__hash__" = pure (some (.builtin "int.__hash__")) := by
  show typeLookup (.type "int") "__hash__" = _
  exact slot_int_hash.lookup
theorem Rb.hash {k : Int} {t : Tok} : Rb w 5 s p (pyHash (.int k t)) (hashInt k) { s with toks := s.toks + 1 } p := by
  have hr := rawHash_range k
  unfold pyHash
  show Rb w 5 s p (pyHashByItsType (.int k t)) _ _ _
  unfold pyHashByItsType
  have hv : [Value.int k t].any Value.onHeap = false := rfl
  rw [cRoomFor, if_neg (by rw [hv]; exact Bool.false_ne_true), special_hash]
  refine (Rb.bind (N := 0) (N' := 5) Rb.pure ?_).le (by decide)
  refine (Rb.bind (N := 0) (N' := 5) Rb.pure ?_).le (by decide)
  rw [if_neg (by rw [beq_builtin_none]; exact Bool.false_ne_true)]
  refine (Rb.bind (N := 0) (N' := 5) Rb.pure ?_).le (by decide)
  rw [if_neg (by decide)]
  obtain ⟨h, g, d, tk, os⟩ := s
  refine (Rb.bind (N := 5) (N' := 0) (Rb.hashCall _ _ _ _ _ _) ?_).le (by decide)
  show Rb w 0 _ p (pyHashByItsType.reduced (rawHash k)) _ _ _
  unfold pyHashByItsType.reduced
  rw [if_pos (by rw [decide_eq_true hr.1, decide_eq_true hr.2]; rfl)]
  exact Rb.pure
theorem Rb.entries {d : Addr} {part : Option Value} {es : Array DictEntry} {ep : Nat} {o : Obj} (e : s.heap.get? d = some o) (hd : o.data = .dict es ep) : Rb w 1 s p (dictEntries d part) es s p := by
  unfold dictEntries
  refine Rb.bind (N := 1) (N' := 0) (Rb.load e) ?_
  rw [hd]
  exact Rb.pure
theorem places_none {es : Array DictEntry} {h : Int} (hn : ∀ x ∈ es.toList, x.hash ≠ h) : placesWithHash es.size (fun i => es[i]?.map (·.hash)) h = [] := by
  unfold placesWithHash
  rw [List.filter_eq_nil_iff]
  intro i hi
  have hi : i < es.size := List.mem_range.mp hi
  have := hn es[i] (by simp)
  simpa [Array.getElem?_eq_getElem hi] using this
theorem Rb.find {d : Addr} {k h : Int} {t : Tok} {es : Array DictEntry} {ep : Nat} {o : Obj} (e : s.heap.get? d = some o) (hd : o.data = .dict es ep) (hn : ∀ x ∈ es.toList, x.hash ≠ h) : Rb w 1 s p (dictFind d (.int k t) h) none s p := by
  unfold dictFind
  refine Rb.hold _ ?_
  refine Rb.bind (N := 1) (N' := 0) (Rb.entries e hd) ?_
  rw [places_none hn]
  exact Rb.pure
end
end Mine
end

section
open PySem PySem.W PySem.Calls PyProof.Rows
set_option maxRecDepth 100000
set_option linter.unusedVariables false
namespace Mine
noncomputable def HL (l : List Obj) : Heap := ⟨l.toArray, {}⟩
noncomputable abbrev stH (l : List Obj) (tk : Nat) (os : OsState) : Shared := ⟨HL l, #[], {}, tk, os⟩
noncomputable def dO (es : List DictEntry) (n : Nat) : Obj := { cls := .type "dict", data := .dict es.toArray n }
theorem HL_get {pre post : List Obj} {es : List DictEntry} {n : Nat} : (HL (pre ++ dO es n :: post)).get? pre.length = some (dO es n) := by
  have e : (pre ++ dO es n :: post).toArray[pre.length]? = some (dO es n) := by simp
  unfold HL Heap.get?
  rw [e]
  rfl
theorem HL_upd {pre post : List Obj} {o : Obj} {f : Obj → Obj} : (HL (pre ++ o :: post)).update pre.length f = HL (pre ++ f o :: post) := by
  have e : (pre ++ o :: post).toArray.modify pre.length f = (pre ++ f o :: post).toArray := by
    apply Array.toList_inj.mp
    have key : ∀ l : List Obj, (l ++ o :: post).modify l.length f = l ++ f o :: post := fun l => by
      induction l with
      | nil => rfl
      | cons a l ih => show a :: (l ++ o :: post).modify l.length f = _; rw [ih]; rfl
    simpa using key pre
  show (⟨(pre ++ o :: post).toArray.modify pre.length f, {}⟩ : Heap) = _
  rw [e]
  rfl
theorem HL_push {l : List Obj} {o : Obj} : (HL l).push o = HL (l ++ [o]) := by
  unfold HL Heap.push
  congr 1
  simp
theorem HL_size {l : List Obj} : (HL l).objs.size = l.length := by simp [HL]
noncomputable def kI (k : Int) : Sem Value := do return .int k (← PySem.fresh)
noncomputable def vI (q : Pos) (x : Str) : Sem Value := do let x ← (do return .str x (← PySem.fresh) : Sem Value); standAt q; pure x
noncomputable def ent (k : Int) (x : Str) (tk : Nat) : DictEntry := ⟨k, .int k tk, .str x (tk + 1)⟩
noncomputable def lEnts : List (Int × Str) → Nat → List DictEntry
  | [], _ => []
  | (k, x) :: r, tk => ent k x tk :: lEnts r (tk + 3)
theorem lEnts_len : ∀ (l : List (Int × Str)) (tk : Nat), (lEnts l tk).length = l.length
  | [], _ => rfl
  | (k, x) :: r, tk => by show (lEnts r (tk + 3)).length + 1 = r.length + 1; rw [lEnts_len]
theorem lEnts_hash : ∀ (l : List (Int × Str)) (tk : Nat), (lEnts l tk).map (·.hash) = l.map (·.1)
  | [], _ => rfl
  | (k, x) :: r, tk => by show k :: (lEnts r (tk + 3)).map _ = k :: r.map _; rw [lEnts_hash]
section
variable {w : World} {os : OsState} {p q : Pos} {pre post : List Obj} {tk : Nat}
theorem Rb.kI {l : List Obj} {k : Int} : Rb w 1 (stH l tk os) p (kI k) (.int k tk) (stH l (tk + 1) os) p := Rb.bind (N := 1) (N' := 0) Rb.fresh Rb.pure
theorem Rb.vI {l : List Obj} {x : Str} : Rb w 2 (stH l tk os) p (vI q x) (.str x tk) (stH l (tk + 1) os) q := by
  unfold Mine.vI
  refine Rb.bind (N := 1) (N' := 1) (Rb.bind (N := 1) (N' := 0) Rb.fresh Rb.pure) ?_
  exact Rb.bind (N := 1) (N' := 0) Rb.stand Rb.pure
theorem Rb.putKeys {es : List DictEntry} {n : Nat} {e : DictEntry} {part : Option Value} (hd : 11 ≤ pre.length) (hz : es.length ≤ 1000) :
    Rb w 3 (stH (pre ++ dO es n :: post) tk os) p (updateDictKeys pre.length (·.push e) part) () (stH (pre ++ dO (es ++ [e]) (n + 1) :: post) tk os) p := by
  unfold updateDictKeys
  refine Rb.bind (N := 1) (N' := 2) (Rb.load HL_get) ?_
  show Rb w 2 _ p (updatePart pre.length part (Obj.mapDictKeys (·.push e)) >>= fun _ => lookBehind pre.length part) _ _ _
  refine Rb.bind (N := 1) (N' := 1) (Rb.upd HL_get hd) ?_
  show Rb w 1 ⟨(HL (pre ++ dO es n :: post)).update pre.length _, #[], {}, tk, os⟩ p _ _ _ _
  rw [HL_upd]
  have e1 : Obj.mapDictKeys (·.push e) (dO es n) = dO (es ++ [e]) (n + 1) := by
    unfold dO
    simp [Obj.mapDictKeys]
  rw [e1]
  unfold lookBehind
  refine Rb.bind (N := 1) (N' := 0) (Rb.load HL_get) ?_
  have e2 : (dO (es ++ [e]) (n + 1)).data.pastItsLine = none := by
    show (if (es ++ [e]).toArray.size > sizeLine + 1 then some "dict:memory" else none) = none
    rw [if_neg]
    rw [List.size_toArray, List.length_append, List.length_singleton, sizeLine_eq]
    omega
  rw [e2]
  exact Rb.pure
theorem Rb.dput {es : List DictEntry} {n : Nat} {k : Int} {t : Tok} {v : Value} (hd : 11 ≤ pre.length) (hz : es.length ≤ 1000) (hn : ∀ x ∈ es, x.hash ≠ k) :
    Rb w 4 (stH (pre ++ dO es n :: post) tk os) p (dictPut pre.length k (.int k t) v) () (stH (pre ++ dO (es ++ [⟨k, .int k t, v⟩]) (n + 1) :: post) tk os) p := by
  unfold dictPut
  refine Rb.bind (N := 1) (N' := 3) (Rb.find (es := es.toArray) (ep := n) HL_get rfl (by simpa using hn)) ?_
  exact Rb.putKeys hd hz
theorem Rb.dset {es : List DictEntry} {n : Nat} {k : Int} {t : Tok} {v : Value} (hd : 11 ≤ pre.length) (hz : es.length ≤ 1000) (hn : ∀ x ∈ es, x.hash ≠ k) (hk : hashInt k = k) :
    Rb w 10 (stH (pre ++ dO es n :: post) tk os) p (dictSet pre.length (.int k t) v) () (stH (pre ++ dO (es ++ [⟨k, .int k t, v⟩]) (n + 1) :: post) (tk + 1) os) p := by
  unfold dictSet
  refine Rb.hold _ (Rb.bind (N := 5) (N' := 5) Rb.hash ?_)
  rw [hk]
  unfold dictSetHashed
  refine Rb.hold _ ?_
  refine Rb.bind (N := 1) (N' := 4) (Rb.find (es := es.toArray) (ep := n) HL_get rfl (by simpa using hn)) ?_
  refine Rb.bind (N := 1) (N' := 3) Rb.tag ?_
  exact Rb.putKeys hd hz
theorem Rb.forL {α : Type} {a : α} {l : List α} {f : α → PUnit → Sem (ForInStep PUnit)} {N N' : Nat} {s s' s'' : Shared} {p' p'' : Pos} (x : Rb w N s p (f a ⟨⟩) (.yield ⟨⟩) s' p') (y : Rb w N' s' p' (forIn l ⟨⟩ f) ⟨⟩ s'' p'') : Rb w (N + N') s p (forIn (a :: l) ⟨⟩ f) ⟨⟩ s'' p'' := by
  rw [List.forIn_cons]
  exact Rb.bind x y
theorem Rb.forN {α : Type} {f : α → PUnit → Sem (ForInStep PUnit)} {s : Shared} : Rb w 0 s p (forIn ([] : List α) ⟨⟩ f) ⟨⟩ s p := by
  rw [List.forIn_nil]; exact Rb.pure
/-- keys that ascend -/
noncomputable def Asc (es : List DictEntry) (l : List (Int × Str)) : Prop := (es.map (·.hash) ++ l.map (·.1)).Pairwise (· < ·)
theorem Asc.ne {es : List DictEntry} {k : Int} {x : Str} {l : List (Int × Str)} (h : Asc es ((k, x) :: l)) : ∀ y ∈ es, y.hash ≠ k := fun y hy => by
  have := (List.pairwise_append.mp h).2.2 y.hash (List.mem_map_of_mem hy) k (by simp)
  omega
theorem Asc.next {es : List DictEntry} {k : Int} {x : Str} {l : List (Int × Str)} {e : DictEntry} (h : Asc es ((k, x) :: l)) (he : e.hash = k) : Asc (es ++ [e]) l := by
  unfold Asc at h ⊢
  simpa [he] using h
noncomputable def KeysOk (l : List (Int × Str)) : Prop := ∀ y ∈ l, hashInt y.1 = y.1
theorem Rb.longLoop {f : Sem Value × Sem Value → PUnit → Sem (ForInStep PUnit)} (hd : 11 ≤ pre.length) (hf : ∀ k v, f (k, v) ⟨⟩ = (do let kv ← k; let vv ← holding [kv] v; holding [kv, vv] (dictSet pre.length kv vv); Pure.pure (.yield ⟨⟩))) :
    ∀ (l : List (Int × Str)) (es : List DictEntry) (n tk : Nat), Asc es l → KeysOk l → es.length + l.length ≤ 1000 →
      Rb w (13 * l.length) (stH (pre ++ dO es n :: post) tk os) q (forIn (l.map fun y => (Mine.kI y.1, Mine.vI q y.2)) ⟨⟩ f) ⟨⟩ (stH (pre ++ dO (es ++ lEnts l tk) (n + l.length) :: post) (tk + 3 * l.length) os) q
  | [], es, n, tk, _, _, _ => by
    show Rb w 0 _ q (forIn [] ⟨⟩ f) ⟨⟩ (stH (pre ++ dO (es ++ []) n :: post) tk os) q
    rw [List.append_nil]
    exact Rb.forN
  | (k, x) :: l, es, n, tk, ha, hk, hz => by
    have hz' : es.length + (l.length + 1) ≤ 1000 := hz
    have step : Rb w 13 (stH (pre ++ dO es n :: post) tk os) q (f (Mine.kI k, Mine.vI q x) ⟨⟩) (.yield ⟨⟩) (stH (pre ++ dO (es ++ [ent k x tk]) (n + 1) :: post) (tk + 3) os) q := by
      rw [hf]
      refine Rb.bind (N := 1) (N' := 12) Rb.kI ?_
      refine Rb.bind (N := 2) (N' := 10) (Rb.hold _ Rb.vI) ?_
      exact Rb.bind (N := 10) (N' := 0) (Rb.hold _ (Rb.dset hd (by omega) ha.ne (hk _ (.head _)))) Rb.pure
    have rest := Rb.longLoop hd hf l (es ++ [ent k x tk]) (n + 1) (tk + 3) (ha.next rfl) (fun y hy => hk y (.tail _ hy)) (by simp; omega)
    have e1 : es ++ [ent k x tk] ++ lEnts l (tk + 3) = es ++ lEnts ((k, x) :: l) tk := by
      show _ = es ++ (ent k x tk :: lEnts l (tk + 3))
      simp
    rw [e1, show n + 1 + l.length = n + (l.length + 1) by omega, show tk + 3 + 3 * l.length = tk + 3 * (l.length + 1) by omega] at rest
    have := Rb.forL step rest
    rw [show 13 + 13 * l.length = 13 * (l.length + 1) by omega] at this
    exact this
theorem Rb.subLong {l : List (Int × Str)} (hd : 11 ≤ pre.length) (hl : 15 < l.length) (ha : Asc [] l) (hk : KeysOk l) (hz : l.length ≤ 1000) :
    Rb w (13 * l.length + 2) (stH pre tk os) q (subDict (l.map fun y => (Mine.kI y.1, Mine.vI q y.2))) pre.length (stH (pre ++ [dO (lEnts l tk) l.length]) (tk + 3 * l.length) os) q := by
  unfold subDict
  refine (Rb.bind (N := 1) (N' := 13 * l.length + 1) Rb.alloc ?_).le (by omega)
  show Rb w _ ⟨(HL pre).push (dO [] 0), #[], {}, tk, os⟩ q _ _ _ _
  rw [HL_push, HL_size]
  refine Rb.bind (a := ()) (N := 13 * l.length + 1) (N' := 0) (Rb.hold _ ?_) Rb.pure
  rw [if_neg (by rw [List.length_map]; omega)]
  refine (Rb.bind (N := 1) (N' := 13 * l.length) Rb.tag ?_).le (by omega)
  have := Rb.longLoop (w := w) (os := os) (q := q) (post := []) (pre := pre) (f := fun x __s => match x with | (k, v) => do let kv ← k; let vv ← holding [kv] v; holding [kv, vv] (dictSet pre.length kv vv); Pure.pure (.yield ⟨⟩)) hd (fun _ _ => rfl) l [] 0 tk ha hk (by simpa using hz)
  rw [Nat.zero_add, List.nil_append] at this
  exact Rb.bind (N := 13 * l.length) (N' := 0) this Rb.pure
end
end Mine
end

section
open PySem PySem.W PySem.Calls PyProof.Rows
set_option maxRecDepth 100000
set_option linter.unusedVariables false
namespace Mine
noncomputable def sEnts : List (Int × Str) → Nat → List DictEntry
  | [], _ => []
  | (k, x) :: r, tk => ent k x tk :: sEnts r (tk + 2)
noncomputable def sVals : List (Int × Str) → Nat → List (Value × Value)
  | [], _ => []
  | (k, x) :: r, tk => (.int k tk, .str x (tk + 1)) :: sVals r (tk + 2)
noncomputable def EntOk (e : DictEntry) : Prop := ∃ k t v, e = ⟨k, .int k t, v⟩
theorem lEnts_ok : ∀ (l : List (Int × Str)) (tk : Nat), ∀ e ∈ lEnts l tk, EntOk e
  | [], _, _, h => nomatch h
  | (k, x) :: r, tk, e, h => by
    rcases List.mem_cons.mp h with rfl | h
    · exact ⟨_, _, _, rfl⟩
    · exact lEnts_ok r _ e h
theorem sEnts_ok : ∀ (l : List (Int × Str)) (tk : Nat), ∀ e ∈ sEnts l tk, EntOk e
  | [], _, _, h => nomatch h
  | (k, x) :: r, tk, e, h => by
    rcases List.mem_cons.mp h with rfl | h
    · exact ⟨_, _, _, rfl⟩
    · exact sEnts_ok r _ e h
theorem sEnts_len : ∀ (l : List (Int × Str)) (tk : Nat), (sEnts l tk).length = l.length
  | [], _ => rfl
  | (k, x) :: r, tk => by show (sEnts r (tk + 2)).length + 1 = r.length + 1; rw [sEnts_len]
theorem sEnts_hash : ∀ (l : List (Int × Str)) (tk : Nat), (sEnts l tk).map (·.hash) = l.map (·.1)
  | [], _ => rfl
  | (k, x) :: r, tk => by show k :: (sEnts r (tk + 2)).map _ = k :: r.map _; rw [sEnts_hash]
section
variable {w : World} {os : OsState} {p q : Pos} {pre post : List Obj} {tk : Nat}
theorem Rb.evals {ob : List Obj} : ∀ (l : List (Int × Str)) (tk : Nat), Rb w (3 * l.length) (stH ob tk os) q (evalPairs (l.map fun y => (Mine.kI y.1, Mine.vI q y.2))) (sVals l tk) (stH ob (tk + 2 * l.length) os) q
  | [], tk => Rb.pure
  | (k, x) :: l, tk => by
    show Rb w _ _ q (do let kv ← Mine.kI k; let vv ← holding [kv] (Mine.vI q x); return (kv, vv) :: (← holding [kv, vv] (evalPairs (l.map fun y => (Mine.kI y.1, Mine.vI q y.2))))) _ _ _
    have rest := Rb.evals (ob := ob) l (tk + 2)
    refine (Rb.bind (N := 1) (N' := 3 * l.length + 2) (Rb.kI (l := ob)) ?_).le (by show 1 + (3 * l.length + 2) ≤ 3 * (l.length + 1); omega)
    refine (Rb.bind (N := 2) (N' := 3 * l.length) (Rb.hold _ (Rb.vI (l := ob))) ?_).le (by omega)
    refine Rb.bind (N := 3 * l.length) (N' := 0) (Rb.hold _ rest) ?_
    rw [show tk + 2 + 2 * l.length = tk + 2 * (l.length + 1) by omega]
    exact Rb.pure
theorem Rb.shortLoop {f : Value × Value → PUnit → Sem (ForInStep PUnit)} (hd : 11 ≤ pre.length) (hf : ∀ k v, f (k, v) ⟨⟩ = (do dictSet pre.length k v; Pure.pure (.yield ⟨⟩))) :
    ∀ (l : List (Int × Str)) (es : List DictEntry) (n tk tv : Nat), Asc es l → KeysOk l → es.length + l.length ≤ 1000 →
      Rb w (10 * l.length) (stH (pre ++ dO es n :: post) tk os) q (forIn (sVals l tv) ⟨⟩ f) ⟨⟩ (stH (pre ++ dO (es ++ sEnts l tv) (n + l.length) :: post) (tk + l.length) os) q
  | [], es, n, tk, tv, _, _, _ => by
    show Rb w 0 _ q (forIn [] ⟨⟩ f) ⟨⟩ (stH (pre ++ dO (es ++ []) n :: post) tk os) q
    rw [List.append_nil]
    exact Rb.forN
  | (k, x) :: l, es, n, tk, tv, ha, hk, hz => by
    have hz' : es.length + (l.length + 1) ≤ 1000 := hz
    have step : Rb w 10 (stH (pre ++ dO es n :: post) tk os) q (f (.int k tv, .str x (tv + 1)) ⟨⟩) (.yield ⟨⟩) (stH (pre ++ dO (es ++ [ent k x tv]) (n + 1) :: post) (tk + 1) os) q := by
      rw [hf]
      exact Rb.bind (N := 10) (N' := 0) (Rb.dset hd (by omega) ha.ne (hk _ (.head _))) Rb.pure
    have rest := Rb.shortLoop hd hf l (es ++ [ent k x tv]) (n + 1) (tk + 1) (tv + 2) (ha.next rfl) (fun y hy => hk y (.tail _ hy)) (by simp; omega)
    have e1 : es ++ [ent k x tv] ++ sEnts l (tv + 2) = es ++ sEnts ((k, x) :: l) tv := by
      show _ = es ++ (ent k x tv :: sEnts l (tv + 2))
      simp
    rw [e1, show n + 1 + l.length = n + (l.length + 1) by omega, show tk + 1 + l.length = tk + (l.length + 1) by omega] at rest
    have := Rb.forL step rest
    rw [show 10 + 10 * l.length = 10 * (l.length + 1) by omega] at this
    exact this
theorem Rb.subShort {l : List (Int × Str)} (hd : 11 ≤ pre.length) (hl : l.length ≤ 15) (ha : Asc [] l) (hk : KeysOk l) :
    Rb w (13 * l.length + 1) (stH pre tk os) q (subDict (l.map fun y => (Mine.kI y.1, Mine.vI q y.2))) pre.length (stH (pre ++ [dO (sEnts l tk) l.length]) (tk + 3 * l.length) os) q := by
  unfold subDict
  refine (Rb.bind (N := 1) (N' := 13 * l.length) Rb.alloc ?_).le (by omega)
  show Rb w _ ⟨(HL pre).push (dO [] 0), #[], {}, tk, os⟩ q _ _ _ _
  rw [HL_push, HL_size]
  refine Rb.bind (a := ()) (N := 13 * l.length) (N' := 0) (Rb.hold _ ?_) Rb.pure
  rw [if_pos (by rw [List.length_map]; exact hl)]
  refine (Rb.bind (N := 3 * l.length) (N' := 10 * l.length) (Rb.evals l tk) (Rb.hold _ ?_)).le (by omega)
  have := Rb.shortLoop (w := w) (os := os) (q := q) (post := []) (pre := pre) (f := fun x __s => match x with | (k, v) => do dictSet pre.length k v; Pure.pure (.yield ⟨⟩)) hd (fun _ _ => rfl) l [] 0 (tk + 2 * l.length) tk ha hk (by simp; omega)
  rw [Nat.zero_add, List.nil_append, show tk + 2 * l.length + l.length = tk + 3 * l.length by omega] at this
  exact Rb.bind (N := 10 * l.length) (N' := 0) this Rb.pure
theorem sub_dict_dict : isSubtype (.type "dict") (.type "dict") = pure true := by rw [isSubtype_type]; kernel_rfl
theorem dict_iter : typeLookup (.type "dict") "__iter__" = pure (some (.builtin "dict.__iter__")) := by rw [typeLookup_type, builtinLookup_eq_fast]; kernel_rfl
theorem Rb.epoch {es : List DictEntry} {n : Nat} {part : Option Value} : Rb w 1 (stH (pre ++ dO es n :: post) tk os) p (dictEpoch pre.length part) n (stH (pre ++ dO es n :: post) tk os) p := by
  unfold dictEpoch
  exact Rb.bind (N := 1) (N' := 0) (Rb.load HL_get) Rb.pure
theorem Rb.ents {es : List DictEntry} {n : Nat} {part : Option Value} : Rb w 1 (stH (pre ++ dO es n :: post) tk os) p (dictEntries pre.length part) es.toArray (stH (pre ++ dO es n :: post) tk os) p :=
  Rb.entries HL_get rfl
noncomputable def AscE (es l : List DictEntry) : Prop := (es.map (·.hash) ++ l.map (·.hash)).Pairwise (· < ·)
theorem AscE.ne {es : List DictEntry} {e : DictEntry} {l : List DictEntry} (h : AscE es (e :: l)) : ∀ y ∈ es, y.hash ≠ e.hash := fun y hy => by
  have := (List.pairwise_append.mp h).2.2 y.hash (List.mem_map_of_mem hy) e.hash (by simp)
  omega
theorem AscE.next {es : List DictEntry} {e : DictEntry} {l : List DictEntry} (h : AscE es (e :: l)) : AscE (es ++ [e]) l := by
  unfold AscE at h ⊢
  simpa using h
theorem Rb.mergeLoop {mid : List Obj} {S : List DictEntry} {ms : Nat} {f : Nat → PUnit → Sem (ForInStep PUnit)} (hd : 11 ≤ pre.length)
    (hf : ∀ i, f i ⟨⟩ = (do
      let es ← dictEntries (pre.length + 1 + mid.length)
      match es[i]? with
      | some e =>
        holding [e.key, e.val] (dictPut pre.length e.hash e.key e.val)
        let ep ← dictEpoch (pre.length + 1 + mid.length)
        if (ep != ms) = true then do unsupported "dict.changed-during-merge"; Pure.pure (.yield ⟨⟩) else Pure.pure (.yield ⟨⟩)
      | _ => do unsupported "dict.changed-during-merge"; Pure.pure (.yield ⟨⟩))) :
    ∀ (S₂ S₁ M : List DictEntry) (n : Nat), S = S₁ ++ S₂ → AscE M S₂ → (∀ e ∈ S₂, EntOk e) → M.length + S₂.length ≤ 1000 →
      Rb w (6 * S₂.length) (stH (pre ++ dO M n :: (mid ++ [dO S ms])) tk os) q (forIn (List.range' S₁.length S₂.length) ⟨⟩ f) ⟨⟩ (stH (pre ++ dO (M ++ S₂) (n + S₂.length) :: (mid ++ [dO S ms])) tk os) q
  | [], S₁, M, n, _, _, _, _ => by
    show Rb w 0 _ q (forIn [] ⟨⟩ f) ⟨⟩ (stH (pre ++ dO (M ++ []) n :: _) tk os) q
    rw [List.append_nil]
    exact Rb.forN
  | e :: S₂, S₁, M, n, hS, ha, ho, hz => by
    have hz' : M.length + (S₂.length + 1) ≤ 1000 := hz
    obtain ⟨k, t, v, rfl⟩ := ho _ (.head _)
    have view : ∀ (M : List DictEntry) (n : Nat), pre ++ dO M n :: (mid ++ [dO S ms]) = (pre ++ dO M n :: mid) ++ dO S ms :: [] := fun M n => by simp
    have len : ∀ (M : List DictEntry) (n : Nat), (pre ++ dO M n :: mid).length = pre.length + 1 + mid.length := fun M n => by simp; omega
    have at' : S.toArray[S₁.length]? = some ⟨k, .int k t, v⟩ := by rw [hS]; simp
    have step : Rb w 6 (stH (pre ++ dO M n :: (mid ++ [dO S ms])) tk os) q (f S₁.length ⟨⟩) (.yield ⟨⟩) (stH (pre ++ dO (M ++ [⟨k, .int k t, v⟩]) (n + 1) :: (mid ++ [dO S ms])) tk os) q := by
      rw [hf]
      refine Rb.bind (N := 1) (N' := 5) (a := S.toArray) (s' := stH (pre ++ dO M n :: (mid ++ [dO S ms])) tk os) (p' := q) ?_ ?_
      · rw [view, ← len M n]
        exact Rb.ents
      · rw [at']
        refine Rb.bind (N := 4) (N' := 1) (Rb.hold _ (Rb.dput hd (by omega) ha.ne)) ?_
        refine Rb.bind (N := 1) (N' := 0) (a := ms) (s' := stH (pre ++ dO (M ++ [⟨k, .int k t, v⟩]) (n + 1) :: (mid ++ [dO S ms])) tk os) (p' := q) ?_ ?_
        · rw [view, ← len (M ++ [⟨k, .int k t, v⟩]) (n + 1)]
          exact Rb.epoch
        · rw [if_neg (by simp)]
          exact Rb.pure
    have rest := Rb.mergeLoop (S := S) (ms := ms) (mid := mid) hd hf S₂ (S₁ ++ [⟨k, .int k t, v⟩]) (M ++ [⟨k, .int k t, v⟩]) (n + 1) (by rw [hS]; simp) ha.next (fun e he => ho e (.tail _ he)) (by simp; omega)
    rw [List.length_append, List.length_singleton] at rest
    have := Rb.forL step rest
    rw [show 6 + 6 * S₂.length = 6 * (S₂.length + 1) by omega] at this
    have e1 : M ++ [⟨k, .int k t, v⟩] ++ S₂ = M ++ (⟨k, .int k t, v⟩ :: S₂ : List DictEntry) := by simp
    rw [e1, show n + 1 + S₂.length = n + (S₂.length + 1) by omega] at this
    exact this
theorem Rb.merge {mid : List Obj} {S M : List DictEntry} {ms n : Nat} (hd : 11 ≤ pre.length) (hM : M ≠ []) (ha : AscE M S) (ho : ∀ e ∈ S, EntOk e) (hz : M.length + S.length ≤ 1000) :
    Rb w (6 * S.length + 8) (stH (pre ++ dO M n :: (mid ++ [dO S ms])) tk os) q (mergeMapping pre.length (.ref (pre.length + 1 + mid.length)) false) () (stH (pre ++ dO (M ++ S) (n + S.length) :: (mid ++ [dO S ms])) tk os) q := by
  have view : ∀ (M : List DictEntry) (n : Nat), pre ++ dO M n :: (mid ++ [dO S ms]) = (pre ++ dO M n :: mid) ++ dO S ms :: [] := fun M n => by simp
  have len : ∀ (M : List DictEntry) (n : Nat), (pre ++ dO M n :: mid).length = pre.length + 1 + mid.length := fun M n => by simp; omega
  have ty : Rb w 1 (stH (pre ++ dO M n :: (mid ++ [dO S ms])) tk os) q (typeOf (.ref (pre.length + 1 + mid.length))) (.type "dict") (stH (pre ++ dO M n :: (mid ++ [dO S ms])) tk os) q := by
    rw [view, ← len M n]
    exact Rb.bind (N := 1) (N' := 0) (Rb.load HL_get) Rb.pure
  have en : Rb w 1 (stH (pre ++ dO M n :: (mid ++ [dO S ms])) tk os) q (dictEntries (pre.length + 1 + mid.length)) S.toArray (stH (pre ++ dO M n :: (mid ++ [dO S ms])) tk os) q := by
    rw [view, ← len M n]
    exact Rb.ents
  have ep : Rb w 1 (stH (pre ++ dO M n :: (mid ++ [dO S ms])) tk os) q (dictEpoch (pre.length + 1 + mid.length)) ms (stH (pre ++ dO M n :: (mid ++ [dO S ms])) tk os) q := by
    rw [view, ← len M n]
    exact Rb.epoch
  have isI : Rb w 1 (stH (pre ++ dO M n :: (mid ++ [dO S ms])) tk os) q (isInstance (.ref (pre.length + 1 + mid.length)) (.type "dict")) true (stH (pre ++ dO M n :: (mid ++ [dO S ms])) tk os) q := by
    unfold isInstance
    refine Rb.bind (N := 1) (N' := 0) ty ?_
    rw [sub_dict_dict]
    exact Rb.pure
  have spI : Rb w 1 (stH (pre ++ dO M n :: (mid ++ [dO S ms])) tk os) q (specialOf (.ref (pre.length + 1 + mid.length)) "__iter__") (some (.builtin "dict.__iter__")) (stH (pre ++ dO M n :: (mid ++ [dO S ms])) tk os) q := by
    unfold specialOf
    refine Rb.bind (N := 1) (N' := 0) ty ?_
    rw [dict_iter]
    exact Rb.pure
  unfold mergeMapping
  refine (Rb.bind (N := 1) (N' := 6 * S.length + 7) isI ?_).le (by omega)
  rw [if_pos rfl]
  refine (Rb.bind (N := 1) (N' := 6 * S.length + 6) spI ?_).le (by omega)
  refine (Rb.bind (N := 0) (N' := 6 * S.length + 6) Rb.pure ?_).le (by omega)
  have hs : ((pre.length + 1 + mid.length : Nat) == sysModules) = false := by
    rw [beq_eq_false_iff_ne]
    show pre.length + 1 + mid.length ≠ 1
    omega
  show Rb w _ _ q (if ((pre.length + 1 + mid.length : Nat) == sysModules) = true then _ else _) _ _ _
  rw [hs, if_neg (by decide)]
  refine (Rb.bind (N := 1) (N' := 6 * S.length + 5) Rb.ents ?_).le (by omega)
  have hM' : M.toArray.isEmpty = false := by simpa using hM
  rw [hM', if_neg (by decide)]
  refine (Rb.bind (N := 1) (N' := 6 * S.length + 4) en ?_).le (by omega)
  refine (Rb.bind (N := 1) (N' := 6 * S.length) ep ?_).le (by omega)
  rw [List.size_toArray, List.range_eq_range']
  refine Rb.bind (N := 6 * S.length) (N' := 0) (Rb.mergeLoop (S := S) (ms := ms) hd ?_ S [] M n rfl ha ho hz) Rb.pure
  intro i
  rfl
end
end Mine
end

section
open PySem PySem.W PySem.Calls PyProof.Rows
set_option maxRecDepth 100000
set_option linter.unusedVariables false
namespace Mine
noncomputable abbrev Pr := Sem Value × Sem Value
noncomputable def flushD (run : List Pr) (main : Option Addr) : Sem (Option Addr) := do
  if run.isEmpty then return main
  match main with
  | none => return some (← subDict run)
  | some d =>
    let sub ← holding [.ref d] (subDict run)
    (holding [.ref d, .ref sub] (mergeMapping d (.ref sub) false)).onRaise fun x => do let _ ← holding [.ref d, x] (runValue (.builtin "proto.let_go" {}))
    return some d
theorem display_eq (items : List (Option (Sem Value) × Sem Value)) : ∃ F : Option (Sem Value) × Sem Value → Option Addr × List Pr → Sem (ForInStep (Option Addr × List Pr)),
    (∀ k v main run, F (some k, v) (main, run) = if ((run ++ [(k, v)]).length == 17) = true then (do let m ← flushD (run ++ [(k, v)]) main; pure (.yield (m, []))) else pure (.yield (main, run ++ [(k, v)]))) ∧
    dictDisplay items = (do
      let st ← forIn items ((none, []) : Option Addr × List Pr) F
      match ← flushD st.2 st.1 with
      | some d => pure (.ref d)
      | none => newDict) := ⟨_, fun _ _ _ _ => rfl, rfl⟩
structure MSt where
  main : Option (List DictEntry)
  subs : List Obj
  tk : Nat
noncomputable def MSt.obs (S : MSt) : List Obj := match S.main with | none => [] | some M => dO M M.length :: S.subs
noncomputable def MSt.mh (S : MSt) : List Int := match S.main with | none => [] | some M => M.map (·.hash)
noncomputable def MSt.addr (S : MSt) (d : Addr) : Option Addr := S.main.map fun _ => d
noncomputable def fl (R : List (Int × Str)) (S : MSt) : MSt := match S.main with
  | none => ⟨some (lEnts R S.tk), [], S.tk + 3 * R.length⟩
  | some M => ⟨some (M ++ lEnts R S.tk), S.subs ++ [dO (lEnts R S.tk) R.length], S.tk + 3 * R.length⟩
theorem fl_mh (R : List (Int × Str)) (S : MSt) : (fl R S).mh = S.mh ++ R.map (·.1) := by
  obtain ⟨m, b, t⟩ := S
  cases m with
  | none => show (lEnts R t).map _ = _; rw [lEnts_hash]; rfl
  | some M => show (M ++ lEnts R t).map _ = _; rw [List.map_append, lEnts_hash]; rfl
noncomputable def runAll : List (Int × Str) → List (Int × Str) → MSt → MSt × List (Int × Str)
  | [], R, S => (S, R)
  | y :: r, R, S => if ((R ++ [y]).length == 17) = true then runAll r [] (fl (R ++ [y]) S) else runAll r (R ++ [y]) S
noncomputable abbrev itm (q : Pos) (y : Int × Str) : Pr := (kI y.1, vI q y.2)
noncomputable abbrev itmO (q : Pos) (y : Int × Str) : Option (Sem Value) × Sem Value := (some (kI y.1), vI q y.2)
noncomputable def MSt.ok (S : MSt) : Prop := ∀ M, S.main = some M → M ≠ []
section
variable {w : World} {os : OsState} {p q : Pos} {pre post : List Obj} {tk : Nat}
theorem asc_of {R : List (Int × Str)} {l : List Int} (h : (l ++ R.map (·.1)).Pairwise (· < ·)) : Asc [] R := by
  unfold Asc
  exact (List.pairwise_append.mp h).2.1
theorem Rb.flushLong {R : List (Int × Str)} {S : MSt} (hd : 11 ≤ pre.length) (hR : 15 < R.length) (hR2 : R.length ≤ 17) (ok : S.ok) (ha : (S.mh ++ R.map (·.1)).Pairwise (· < ·)) (hk : KeysOk R) (hz : S.mh.length + R.length ≤ 1000) :
    Rb w (20 * R.length) (stH (pre ++ S.obs) S.tk os) q (flushD (R.map (itm q)) (S.addr pre.length)) ((fl R S).addr pre.length) (stH (pre ++ (fl R S).obs) (fl R S).tk os) q := by
  have hne : (R.map (itm q)).isEmpty = false := by
    cases R with
    | nil => simp at hR
    | cons => rfl
  unfold flushD
  rw [hne, if_neg (by decide)]
  obtain ⟨m, b, t⟩ := S
  cases m with
  | none =>
    show Rb w (20 * R.length) (stH (pre ++ []) t os) q (subDict (R.map (itm q)) >>= fun a => Pure.pure (some a)) (some pre.length) (stH (pre ++ [dO (lEnts R t) (lEnts R t).length]) (t + 3 * R.length) os) q
    rw [List.append_nil, lEnts_len]
    have h1 := Rb.subLong (w := w) (os := os) (q := q) (pre := pre) (tk := t) (l := R) hd hR (asc_of ha) hk (by omega)
    have h2 := Rb.bind (N := 13 * R.length + 2) (N' := 0) (f := fun a => (Pure.pure (some a) : Sem (Option Addr))) h1 Rb.pure
    exact h2.le (N' := 20 * R.length) (by omega)
  | some M =>
    have hM : M ≠ [] := ok M rfl
    have hz' : M.length + R.length ≤ 1000 := by simpa [MSt.mh] using hz
    have len : (pre ++ dO M M.length :: b).length = pre.length + 1 + b.length := by simp; omega
    show Rb w (20 * R.length) (stH (pre ++ dO M M.length :: b) t os) q (do
      let sub ← holding [.ref pre.length] (subDict (R.map (itm q)))
      (holding [.ref pre.length, .ref sub] (mergeMapping pre.length (.ref sub) false)).onRaise fun x => do let _ ← holding [.ref pre.length, x] (runValue (.builtin "proto.let_go" {}))
      return some pre.length) (some pre.length) (stH (pre ++ dO (M ++ lEnts R t) (M ++ lEnts R t).length :: (b ++ [dO (lEnts R t) R.length])) (t + 3 * R.length) os) q
    have sub := Rb.subLong (w := w) (os := os) (q := q) (pre := pre ++ dO M M.length :: b) (tk := t) (l := R) (by rw [len]; omega) hR (asc_of ha) hk (by omega)
    rw [len] at sub
    refine (Rb.bind (N := 13 * R.length + 2) (N' := 6 * R.length + 8) (Rb.hold _ sub) ?_).le (by omega)
    rw [show (pre ++ dO M M.length :: b) ++ [dO (lEnts R t) R.length] = pre ++ dO M M.length :: (b ++ [dO (lEnts R t) R.length]) by simp]
    have mg := Rb.merge (w := w) (os := os) (q := q) (pre := pre) (tk := t + 3 * R.length) (mid := b) (S := lEnts R t) (M := M) (ms := R.length) (n := M.length) hd hM (by unfold AscE; rw [lEnts_hash]; exact ha) (lEnts_ok R t) (by rw [lEnts_len]; exact hz')
    rw [lEnts_len] at mg
    rw [List.length_append, lEnts_len]
    exact Rb.bind (N := 6 * R.length + 8) (N' := 0) (Rb.onRaise _ (Rb.hold _ mg)) Rb.pure
theorem fl_ok {R : List (Int × Str)} {S : MSt} (hR : 0 < R.length) : (fl R S).ok := by
  obtain ⟨m, b, t⟩ := S
  have hl : lEnts R t ≠ [] := by
    intro h
    have := lEnts_len R t
    rw [h] at this
    simp at this
    omega
  cases m with
  | none => intro M h; cases h; exact hl
  | some M0 =>
    intro M h
    have h : some (M0 ++ lEnts R t) = some M := h
    injection h with h
    rw [← h]
    simp [hl]
theorem Rb.allLoop {F : Option (Sem Value) × Sem Value → Option Addr × List Pr → Sem (ForInStep (Option Addr × List Pr))} (hd : 11 ≤ pre.length)
    (hF : ∀ k v main run, F (some k, v) (main, run) = if ((run ++ [(k, v)]).length == 17) = true then (do let m ← flushD (run ++ [(k, v)]) main; Pure.pure (.yield (m, []))) else Pure.pure (.yield (main, run ++ [(k, v)]))) :
    ∀ (l R : List (Int × Str)) (S : MSt), R.length < 17 → S.ok → (S.mh ++ R.map (·.1) ++ l.map (·.1)).Pairwise (· < ·) → KeysOk R → KeysOk l → S.mh.length + R.length + l.length ≤ 1000 →
      Rb w (20 * (R.length + l.length)) (stH (pre ++ S.obs) S.tk os) q (forIn (l.map (itmO q)) (S.addr pre.length, R.map (itm q)) F) ((runAll l R S).1.addr pre.length, (runAll l R S).2.map (itm q)) (stH (pre ++ (runAll l R S).1.obs) (runAll l R S).1.tk os) q
  | [], R, S, _, _, _, _, _, _ => by
    rw [List.map_nil, List.forIn_nil]
    exact Rb.pure.le (Nat.zero_le _)
  | y :: l, R, S, hR, ok, ha, hkR, hk, hz => by
    have hz' : S.mh.length + R.length + (l.length + 1) ≤ 1000 := hz
    rw [List.map_cons, List.forIn_cons, hF]
    have e1 : R.map (itm q) ++ [(Mine.kI y.1, Mine.vI q y.2)] = (R ++ [y]).map (itm q) := by rw [List.map_append]; rfl
    have e2 : ((R.map (itm q) ++ [(Mine.kI y.1, Mine.vI q y.2)]).length == 17) = ((R ++ [y]).length == 17) := by rw [e1, List.length_map]
    have ha2 : (S.mh ++ (R ++ [y]).map (·.1) ++ l.map (·.1)).Pairwise (· < ·) := by simpa using ha
    have hkR2 : KeysOk (R ++ [y]) := fun z h => by
      rcases List.mem_append.mp h with h | h
      · exact hkR z h
      · rw [List.mem_singleton.mp h]; exact hk _ (.head _)
    have hkl : KeysOk l := fun z h => hk z (.tail _ h)
    rw [e2, e1]
    unfold runAll
    by_cases hc : ((R ++ [y]).length == 17) = true
    · rw [if_pos hc, if_pos hc]
      have hl : (R ++ [y]).length = 17 := by simpa using hc
      have hl' : R.length + 1 = 17 := by simpa using hl
      have f1 := Rb.flushLong (w := w) (os := os) (q := q) (pre := pre) (R := R ++ [y]) (S := S) hd (by omega) (by omega) ok (List.pairwise_append.mp ha2).1 hkR2 (by rw [hl]; omega)
      have ih := Rb.allLoop hd hF l [] (fl (R ++ [y]) S) (by simp) (fl_ok (by omega)) (by rw [fl_mh]; simpa using ha2) (fun z h => nomatch h) hkl (by rw [fl_mh]; simp; omega)
      have f2 := Rb.bind (N := 20 * (R ++ [y]).length) (N' := 0) (f := fun m => (Pure.pure (.yield (m, [])) : Sem (ForInStep (Option Addr × List Pr)))) f1 Rb.pure
      refine (Rb.bind (N := 20 * (R ++ [y]).length + 0) (N' := 20 * (0 + l.length)) f2 ?_).le ?_
      · exact ih
      · rw [hl]
        show 20 * 17 + 0 + 20 * (0 + l.length) ≤ 20 * (R.length + (l.length + 1))
        omega
    · rw [if_neg hc, if_neg hc]
      have hl : (R ++ [y]).length < 17 := by
        have h1 : (R ++ [y]).length ≠ 17 := by simpa using hc
        have h2 : (R ++ [y]).length = R.length + 1 := by simp
        omega
      have ih := Rb.allLoop hd hF l (R ++ [y]) S hl ok ha2 hkR2 hkl (by simp; omega)
      refine (Rb.bind (N := 0) (N' := 20 * ((R ++ [y]).length + l.length)) Rb.pure ?_).le ?_
      · exact ih
      · simp
        omega
theorem Rb.flushShort {R : List (Int × Str)} {S : MSt} {M : List DictEntry} (hd : 11 ≤ pre.length) (hR : 0 < R.length) (hR2 : R.length ≤ 15) (hS : S.main = some M) (ok : S.ok) (ha : (S.mh ++ R.map (·.1)).Pairwise (· < ·)) (hk : KeysOk R) (hz : S.mh.length + R.length ≤ 1000) :
    Rb w (20 * R.length + 10) (stH (pre ++ S.obs) S.tk os) q (flushD (R.map (itm q)) (S.addr pre.length)) (some pre.length)
      (stH (pre ++ dO (M ++ sEnts R S.tk) (M.length + R.length) :: (S.subs ++ [dO (sEnts R S.tk) R.length])) (S.tk + 3 * R.length) os) q := by
  have hne : (R.map (itm q)).isEmpty = false := by
    cases R with
    | nil => simp at hR
    | cons => rfl
  unfold flushD
  rw [hne, if_neg (by decide)]
  obtain ⟨m, b, t⟩ := S
  cases hS
  have hM : M ≠ [] := ok M rfl
  have hz' : M.length + R.length ≤ 1000 := by simpa [MSt.mh] using hz
  have len : (pre ++ dO M M.length :: b).length = pre.length + 1 + b.length := by simp; omega
  show Rb w (20 * R.length + 10) (stH (pre ++ dO M M.length :: b) t os) q (do
    let sub ← holding [.ref pre.length] (subDict (R.map (itm q)))
    (holding [.ref pre.length, .ref sub] (mergeMapping pre.length (.ref sub) false)).onRaise fun x => do let _ ← holding [.ref pre.length, x] (runValue (.builtin "proto.let_go" {}))
    return some pre.length) (some pre.length) (stH (pre ++ dO (M ++ sEnts R t) (M.length + R.length) :: (b ++ [dO (sEnts R t) R.length])) (t + 3 * R.length) os) q
  have sub := Rb.subShort (w := w) (os := os) (q := q) (pre := pre ++ dO M M.length :: b) (tk := t) (l := R) (by rw [len]; omega) hR2 (asc_of ha) hk
  rw [len] at sub
  refine (Rb.bind (N := 13 * R.length + 1) (N' := 6 * R.length + 8) (Rb.hold _ sub) ?_).le (by omega)
  rw [show (pre ++ dO M M.length :: b) ++ [dO (sEnts R t) R.length] = pre ++ dO M M.length :: (b ++ [dO (sEnts R t) R.length]) by simp]
  have mg := Rb.merge (w := w) (os := os) (q := q) (pre := pre) (tk := t + 3 * R.length) (mid := b) (S := sEnts R t) (M := M) (ms := R.length) (n := M.length) hd hM (by unfold AscE; rw [sEnts_hash]; exact ha) (sEnts_ok R t) (by rw [sEnts_len]; exact hz')
  rw [sEnts_len] at mg
  exact Rb.bind (N := 6 * R.length + 8) (N' := 0) (Rb.onRaise _ (Rb.hold _ mg)) Rb.pure
/-- a long display of written ints and strs, its end of fewer than sixteen -/
theorem Rb.display {l R : List (Int × Str)} {S : MSt} {M : List DictEntry} (hd : 11 ≤ pre.length) (hrun : runAll l [] ⟨none, [], tk⟩ = (S, R)) (hS : S.main = some M) (hR : 0 < R.length) (hR2 : R.length ≤ 15) (ok : S.ok)
    (ha : (l.map (·.1)).Pairwise (· < ·)) (ha2 : (S.mh ++ R.map (·.1)).Pairwise (· < ·)) (hk : KeysOk l) (hkR : KeysOk R) (hz : l.length ≤ 1000) (hz2 : S.mh.length + R.length ≤ 1000) :
    Rb w (20 * l.length + 20 * R.length + 10) (stH pre tk os) q (dictDisplay (l.map (itmO q))) (.ref pre.length) (stH (pre ++ dO (M ++ sEnts R S.tk) (M.length + R.length) :: (S.subs ++ [dO (sEnts R S.tk) R.length])) (S.tk + 3 * R.length) os) q := by
  obtain ⟨F, hF, e⟩ := display_eq (l.map (itmO q))
  rw [e]
  have lp := Rb.allLoop (w := w) (os := os) (q := q) (pre := pre) hd hF l [] ⟨none, [], tk⟩ (by simp) (fun M h => nomatch h) (by simpa [MSt.mh] using ha) (fun z h => nomatch h) hk (by simpa [MSt.mh] using hz)
  rw [hrun] at lp
  have e0 : pre ++ (⟨none, [], tk⟩ : MSt).obs = pre := List.append_nil _
  rw [e0] at lp
  refine (Rb.bind (N := 20 * (0 + l.length)) (N' := 20 * R.length + 10) lp ?_).le (by omega)
  exact Rb.bind (N := 20 * R.length + 10) (N' := 0) (Rb.flushShort hd hR hR2 hS ok ha2 hkR hz2) Rb.pure
end
end Mine
end

section
open PySem PySem.W PySem.Calls PyProof.Rows
set_option maxRecDepth 100000
set_option linter.unusedVariables false
namespace Mine
noncomputable def hp_7b (P : Params) : Heap := ⟨#[boot_o_0 P, boot_o_1 P, boot_o_2 P, ob_6_3 P, boot_o_4 P, boot_o_5 P, boot_o_6 P, boot_o_7 P, boot_o_8 P, boot_o_9 P, boot_o_10 P, ob_b_11 P, ob_6_12 P, ob_b_13 P, ob_b_14 P, ob_1_15 P, ob_1_16 P, ob_1_17 P, ob_1_18 P, ob_1_19 P, ob_1_20 P, ob_1_21 P, ob_2_22 P, ob_3_23 P, ob_3_24 P, ob_3_25 P, ob_3_26 P, ob_3_27 P, ob_3_28 P, ob_3_29 P, ob_3_30 P, ob_5_31 P, ob_5_32 P, ob_5_33 P, ob_5_34 P, ob_5_35 P, ob_5_36 P, ob_5_37 P, ob_5_38 P, ob_5_39 P, ob_5_40 P, ob_5_41 P, ob_6_42 P, ob_6_43 P, ob_6_44 P, ob_6_45 P, ob_6_46 P, ob_6_47 P, ob_6_48 P, ob_7_49 P, ob_7_50 P, ob_7_51 P, ob_7_52 P, ob_7_53 P, ob_7_54 P, ob_7_55 P, ob_7_56 P, ob_7_57 P, ob_7_58 P, ob_7_59 P, ob_7_60 P, ob_7_61 P, ob_7_62 P, ob_7_63 P, ob_7_64 P, ob_7_65 P, ob_7_66 P, ob_7_67 P, ob_7_68 P, ob_7_69 P, ob_7_70 P, ob_7_71 P, ob_7_72 P, ob_7_73 P, ob_7_74 P, ob_7_75 P, ob_7_76 P, ob_7_77 P, ob_7_78 P, ob_7_79 P, ob_7_80 P, ob_7_81 P, ob_7_82 P, ob_7_83 P, ob_7_84 P, ob_7_85 P, ob_7_86 P, ob_7_87 P], {}⟩

theorem segRun_mono {tb : String → Option Builtin} {p : Program} {w : World} {n₀ : Nat} {ann : Option Value} {b : Nat} (k : Nat) : ∀ {n : Nat} {s : Shared} {t : Thread} {r : Flow × Shared × Code × Pos}, segRun tb p w n₀ ann b n s t = some r → segRun tb p w n₀ ann b (n + k) s t = some r
  | 0, _, _, _, h => by cases h
  | n + 1, s, t, r, h => by
    rw [show n + 1 + k = n + k + 1 by omega]
    unfold segRun at h ⊢
    cases he : endAt b t with
    | some f => rw [he] at h; exact h
    | none =>
      rw [he] at h
      cases hk : stepOk n₀ ann t with
      | false => rw [hk] at h; cases h
      | true =>
        rw [hk] at h
        cases hs : step (denote tb) p w s t with
        | halt o s₂ => rw [hs] at h; cases h
        | go s₂ t₂ => rw [hs] at h; exact segRun_mono k h
theorem pc_of_run {w : World} {st : Stmt} {N : Nat} {h : Params → Heap} {k : Nat} {p : Pos} {h' : Params → Heap} {k' : Nat} {p' : Pos}
    (e : ∀ os, Rb w N ⟨h w.params, #[], {}, k, os⟩ p (exec st envT) .next ⟨h' w.params, #[], {}, k', os⟩ p') : Pc w st (N + 1) h k p h' k' p' := by
  funext os
  obtain ⟨n, hn, x⟩ := Rb.bind (N' := 0) (f := fun f => (match f with | .next => execs [] envT | f => Pure.pure f : Sem Flow)) (e os) Rb.pure
  have x := x doneF deadEnd id id
  have y : segRun treeTable prg w 11 (some (.ref 6)) 1 1 ⟨h' w.params, #[], {}, k', os⟩ ⟨doneF .next, cT, p', fT⟩ = some (.next, ⟨h' w.params, #[], {}, k', os⟩, cT, p') := rfl
  have z := segRun_mono (N - n) (seg_go x y)
  rw [show n + 1 + (N - n) = N + 1 by omega] at z
  exact z
noncomputable def kOf : Option PySem.Expr → Option Int
  | some (.Constant (.int k) _ _) => some k
  | _ => none
noncomputable def vOf : PySem.Expr → Option Str
  | .Constant (.str x) _ _ => some x
  | _ => none
noncomputable def litp : List (Option PySem.Expr) → List PySem.Expr → Option (List (Int × Str))
  | [], vs => if vs.isEmpty then some [] else none
  | k :: ks, vs => (kOf k).bind fun k => (vs.head?.bind vOf).bind fun x => (litp ks vs.tail).map ((k, x) :: ·)
theorem kOf_eq {o : Option PySem.Expr} {k : Int} (h : kOf o = some k) : ∃ a b, o = some (.Constant (.int k) a b) := by
  unfold kOf at h
  split at h
  · cases h; exact ⟨_, _, rfl⟩
  · cases h
theorem vOf_eq {o : PySem.Expr} {k : Str} (h : vOf o = some k) : ∃ a b, o = .Constant (.str k) a b := by
  unfold vOf at h
  split at h
  · cases h; exact ⟨_, _, rfl⟩
  · cases h
theorem litp_items {env : Env} {q : Pos} {ks : List (Option PySem.Expr)} : ∀ {vs : List PySem.Expr} {l : List (Int × Str)}, litp ks vs = some l →
    (evalEachOpt ks env).zip ((evalEach vs env).map fun v => do let x ← v; standAt q; pure x) = l.map (itmO q) := by
  induction ks with
  | nil =>
    intro vs l h
    unfold litp at h
    cases vs with
    | nil => cases h; rfl
    | cons v vs => cases h
  | cons ko ks ih =>
    intro vs l h
    unfold litp at h
    obtain ⟨k, ek, h⟩ := Option.bind_eq_some_iff.mp h
    obtain ⟨x, ex, h⟩ := Option.bind_eq_some_iff.mp h
    obtain ⟨l', e, rfl⟩ := Option.map_eq_some_iff.mp h
    cases vs with
    | nil => cases ex
    | cons v vs =>
      obtain ⟨_, _, rfl⟩ := kOf_eq ek
      obtain ⟨_, _, rfl⟩ := vOf_eq ex
      have ih := ih e
      show (some (kI k), vI q x) :: _ = (some (kI k), vI q x) :: _
      exact congrArg _ ih
noncomputable def ks7 : List (Option PySem.Expr) := match stm 7 with | .Assign _ (.Dict ks _ _) _ => ks | _ => []
noncomputable def vs7 : List PySem.Expr := match stm 7 with | .Assign _ (.Dict _ vs _) _ => vs | _ => []
noncomputable def b3kx : List (Int × Str) := (litp ks7 vs7).getD []
theorem b3kx_eq : litp ks7 vs7 = some b3kx := by
  have h : (litp ks7 vs7).isSome = true := by kernel_rfl
  unfold b3kx
  obtain ⟨l, e⟩ := Option.isSome_iff_exists.mp h
  rw [e]; rfl
noncomputable def ascB : List Int → Bool
  | a :: b :: r => decide (a < b) && ascB (b :: r)
  | _ => true
theorem ascB_pw : ∀ {l : List Int}, ascB l = true → l.Pairwise (· < ·)
  | [], _ => .nil
  | [a], _ => by simp
  | a :: b :: r, h => by
    have h : (decide (a < b) && ascB (b :: r)) = true := h
    rw [Bool.and_eq_true, decide_eq_true_eq] at h
    have ih := ascB_pw h.2
    refine List.pairwise_cons.mpr ⟨fun c hc => ?_, ih⟩
    rcases List.mem_cons.mp hc with rfl | hc
    · exact h.1
    · exact Int.lt_trans h.1 ((List.pairwise_cons.mp ih).1 c hc)
noncomputable def S7 : MSt := (runAll b3kx [] ⟨none, [], 280⟩).1
noncomputable def R7 : List (Int × Str) := (runAll b3kx [] ⟨none, [], 280⟩).2
noncomputable def M7 : List DictEntry := S7.main.getD []
theorem b3_len : b3kx.length = 650 := by decide +kernel
theorem R7_len : R7.length = 4 := by decide +kernel
theorem b3_asc : ascB (b3kx.map (·.1)) = true := by decide +kernel
theorem b3_keys : (b3kx.all fun y => hashInt y.1 == y.1) = true := by decide +kernel
theorem R7_keys : (R7.all fun y => hashInt y.1 == y.1) = true := by decide +kernel
theorem S7_main : S7.main = some M7 := by kernel_rfl
theorem S7_mh : S7.mh ++ R7.map (·.1) = b3kx.map (·.1) := by kernel_rfl
theorem S7_tk : S7.tk = 2218 := by decide +kernel
end Mine
end

section
open PySem PySem.W PySem.Calls PyProof.Rows
set_option maxRecDepth 100000
set_option linter.unusedVariables false
namespace Mine
theorem hp7b_eq (P : Params) : HL ((hp_6 P).objs.toList ++ dO (M7 ++ sEnts R7 2218) (M7.length + 4) :: (S7.subs ++ [dO (sEnts R7 2218) 4])) = hp_7b P := by kernel_rfl
theorem hp6_HL (P : Params) : hp_6 P = HL (hp_6 P).objs.toList := by kernel_rfl
theorem hp6_len (P : Params) : (hp_6 P).objs.toList.length = 49 := by kernel_rfl
theorem bind7 (w : World) (os : OsState) (p : Pos) : Rb w 6 ⟨hp_7b w.params, #[], {}, 2230, os⟩ p (bindName envT "b3_exceptions" (.ref 49)) () ⟨hp_7 w.params, #[], {}, 2231, os⟩ p := by
  have key : ∀ (K : Unit → Sem PySem.Fin) (H : Value → Sem PySem.Fin) (gd : Bool → Bool) (lv : List Value → List Value), segGoQ prg w 11 (some (.ref 6)) 1 6 ⟨hp_7b w.params, #[], {}, 2230, os⟩ ⟨(PySem.W.Fast.tw7536695828754713326 envT "b3_exceptions" (.ref 49)).wrap K H gd lv, cT, p, fT⟩ = some (⟨hp_7 w.params, #[], {}, 2231, os⟩, ⟨K (), cT, p, fT⟩) := by
    intros; kernel_rfl
  refine ⟨6, Nat.le_refl _, fun K H gd lv => ?_⟩
  have := key K H gd lv
  unfold segGoQ at this
  rw [← PySem.W.Fast.te3277212676724774461, ← PySem.W.Fast.te14364793385576792824, ← PySem.W.Fast.te7536695828754713326] at this
  exact this
noncomputable def p7d : Pos := match stm 7 with | .Assign _ (.Dict _ _ p) _ => p | _ => default
noncomputable def p7n : Pos := match stm 7 with | .Assign [.Name _ p] _ _ => p | _ => default
noncomputable def p7 : Pos := match stm 7 with | .Assign _ _ p => p | _ => default
theorem stm7 : stm 7 = .Assign [.Name (Str.ofString "b3_exceptions") p7n] (.Dict ks7 vs7 p7d) p7 := by kernel_rfl
theorem keys_of {l : List (Int × Str)} (h : (l.all fun y => hashInt y.1 == y.1) = true) : KeysOk l := fun y hy => eq_of_beq (List.all_eq_true.mp h y hy)
theorem dict7 (w : World) (os : OsState) : Rb w 13200 ⟨hp_6 w.params, #[], {}, 280, os⟩ p7d (dictDisplay (b3kx.map (itmO p7d))) (.ref 49) ⟨hp_7b w.params, #[], {}, 2230, os⟩ p7d := by
  have ha := ascB_pw b3_asc
  have h := Rb.display (w := w) (os := os) (q := p7d) (pre := (hp_6 w.params).objs.toList) (tk := 280) (l := b3kx) (R := R7) (S := S7) (M := M7) (by rw [hp6_len]; decide) rfl S7_main (by rw [R7_len]; decide) (by rw [R7_len]; decide)
    (fun M h => by
      rw [S7_main] at h
      injection h with h
      rw [← h]
      intro h0
      have h1 := congrArg List.length S7_mh
      rw [List.length_append, List.length_map, List.length_map, b3_len, R7_len] at h1
      unfold MSt.mh at h1
      rw [S7_main, h0] at h1
      cases h1) ha (by rw [S7_mh]; exact ha) (keys_of b3_keys) (keys_of R7_keys) (by rw [b3_len]; decide) (by
      have h1 := congrArg List.length S7_mh
      rw [List.length_append, List.length_map, List.length_map, b3_len] at h1
      omega)
  rw [S7_tk, R7_len, b3_len, hp6_len] at h
  unfold stH at h
  rw [hp7b_eq, ← hp6_HL] at h
  exact h.le (by decide)
theorem pc_7 (w : World) : Pc w (stm 7) 13301 hp_6 280 ⟨43, 0, 43, 30⟩ hp_7 2231 ⟨44, 0, 44, 13⟩ := by
  refine pc_of_run (N := 13300) fun os => ?_
  rw [stm7]
  have sw : swapsWith (.Dict ks7 vs7 p7d) (some (.Name (Str.ofString "b3_exceptions") p7n)) p7.line envT = pure false := by kernel_rfl
  refine Rb.eq (exec_Assign_Name (env := envT) (x := Str.ofString "b3_exceptions") (pos' := p7n) (value := .Dict ks7 vs7 p7d) (pos := p7) (hs := sw)) ?_
  refine (Rb.bind (N := 1) (N' := 13299) Rb.stand ?_).le (by decide)
  refine (Rb.bind (a := .ref 49) (s' := ⟨hp_7b w.params, #[], {}, 2230, os⟩) (p' := p7d) (N := 13201) (N' := 98) ?_ ?_).le (by decide)
  · show Rb w 13201 _ _ (do standAt p7d; dictDisplay ((evalEachOpt ks7 envT).zip ((evalEach vs7 envT).map fun v => do let x ← v; standAt p7d; pure x))) _ _ _
    rw [litp_items b3kx_eq]
    exact (Rb.bind (N := 1) (N' := 13200) Rb.stand (dict7 w os)).le (by decide)
  · refine (Rb.bind (N := 1) (N' := 97) Rb.stand ?_).le (by decide)
    have hp : p7n = ⟨44, 0, 44, 13⟩ := by kernel_rfl
    have b := Rb.bind (N := 6) (N' := 0) (f := fun _ => (Pure.pure Flow.next : Sem Flow)) (bind7 w os p7n) Rb.pure
    rw [← hp]
    exact b.le (N' := 97) (by decide)
end Mine
end

section
open PySem PySem.W PySem.Calls PyProof.Rows
set_option maxRecDepth 100000
set_option linter.unusedVariables false
namespace Mine
theorem top_pre (w : World) (os : OsState) : topGo treeTable prg w 11 (some (.ref 6)) 12 ⟨boot_heap w.params, #[], boot_drawn, boot_toks, os⟩ (topStub prg) = some (⟨hp_b w.params, #[], {}, 187, os⟩, ⟨denote treeTable cT, cT, ⟨0, 0, 0, 0⟩, fT⟩) := by
  have h : ∀ (w : World), (fun os => topGo treeTable prg w 11 (some (.ref 6)) 12 ⟨boot_heap w.params, #[], boot_drawn, boot_toks, os⟩ (topStub prg)) = fun os => some (⟨hp_b w.params, #[], {}, 187, os⟩, ⟨denote treeTable cT, cT, ⟨0, 0, 0, 0⟩, fT⟩) := by
    intro w; kernel_rfl
  exact congrFun (h w) os
theorem top_block (w : World) (os : OsState) : segRun treeTable prg w 11 (some (.ref 6)) 1 1 ⟨hp_b w.params, #[], {}, 187, os⟩ (blockOf bodyT envT cT ⟨0, 0, 0, 0⟩ fT) = some (.next, ⟨hp_b w.params, #[], {}, 187, os⟩, cT, ⟨0, 0, 0, 0⟩) := by kernel_rfl
theorem top_fin (w : World) (os : OsState) : topRun treeTable prg w 11 (some (.ref 6)) 2 ⟨hp_17 w.params, #[], {}, 2297, os⟩ ⟨doneF .next, cT, ⟨105, 0, 107, 50⟩, fT⟩ = some ⟨hp_17 w.params, #[], {}, 2297, os⟩ := by kernel_rfl
theorem bodyT_eq : bodyT = [stm 0] ++ ([stm 1] ++ ([stm 2] ++ ([stm 3] ++ ([stm 4] ++ ([stm 5] ++ ([stm 6] ++ ([stm 7] ++ ([stm 8] ++ ([stm 9] ++ ([stm 10] ++ ([stm 11] ++ ([stm 12] ++ ([stm 13] ++ ([stm 14] ++ ([stm 15] ++ ([stm 16] ++ ([stm 17] ++ []))))))))))))))))) := by kernel_rfl
theorem pc_app {w : World} {os : OsState} {st : Stmt} {n : Nat} {h : Params → Heap} {k : Nat} {p : Pos} {h' : Params → Heap} {k' : Nat} {p' : Pos} {N : Nat} {rest : List Stmt} {r : Shared} (x : Pc w st n h k p h' k' p')
    (y : topRun treeTable prg w 11 (some (.ref 6)) N ⟨h' w.params, #[], {}, k', os⟩ (restOf rest envT cT p' fT) = some r) : topRun treeTable prg w 11 (some (.ref 6)) (n + N) ⟨h w.params, #[], {}, k, os⟩ (restOf ([st] ++ rest) envT cT p fT) = some r :=
  piece_app (congrFun x os) y
theorem top_run (w : World) (os : OsState) : topRun treeTable prg w 11 (some (.ref 6)) (12 + (1 + (10 + (32 + (27 + (38 + (10 + (999 + (30 + (13301 + (31 + (10 + (27 + (29 + (27 + (32 + (32 + (27 + (27 + (31 + 2)))))))))))))))))))) ⟨boot_heap w.params, #[], boot_drawn, boot_toks, os⟩ (topStub prg) = some ⟨hp_17 w.params, #[], {}, 2297, os⟩ := by
  refine go_top (top_pre w os) (piece_block (top_block w os) ?_)
  rw [bodyT_eq]
  refine pc_app (pc_0 w) ?_
  refine pc_app (pc_1 w) ?_
  refine pc_app (pc_2 w) ?_
  refine pc_app (pc_3 w) ?_
  refine pc_app (pc_4 w) ?_
  refine pc_app (pc_5 w) ?_
  refine pc_app (pc_6 w) ?_
  refine pc_app (pc_7 w) ?_
  refine pc_app (pc_8 w) ?_
  refine pc_app (pc_9 w) ?_
  refine pc_app (pc_10 w) ?_
  refine pc_app (pc_11 w) ?_
  refine pc_app (pc_12 w) ?_
  refine pc_app (pc_13 w) ?_
  refine pc_app (pc_14 w) ?_
  refine pc_app (pc_15 w) ?_
  refine pc_app (pc_16 w) ?_
  refine pc_app (pc_17 w) ?_
  exact piece_nil (top_fin w os)
theorem top_open : ∀ w : World, (fencedOpening treeTable prg w 40000).map (fun s => (s.heap, s.gens, s.drawn, s.toks)) = some (boot_heap w.params, Array.mk [], boot_drawn, boot_toks) :=
  boot_open (by kernel_rfl) (by rfl) (fun s => by kernel_rfl)
theorem top_size : ∀ w : World, ((boot_heap w.params).isNs mainGlobals && (#[] : Array GenState).size == 0, (boot_heap w.params).objs.size, (boot_heap w.params).nsMap mainGlobals "__annotations__") = (true, 11, some (.ref 6)) := fun w => by kernel_rfl
end Mine
end

section
open PySem PySem.W PySem.Calls PyProof.Rows
set_option maxRecDepth 100000
set_option linter.unusedVariables false
namespace Mine
noncomputable def qL : Program := { prg with main := { prg.main with body := [stm 17] } }
noncomputable def looseL : List Str := ["cmp_to_key", "_initial_missing", "reduce", "b1_set", "in_table_b1", "b3_exceptions", "map_table_b3", "_law_text", "_law_moves", "_law_joined", "_law_deed", "_law_compared", "_law_told", "_law_due"]
noncomputable def KH (P : Params) : Frag := (16, tabObj #[]) :: (113, tabObj #[]) :: (127, tabObj #[]) :: K P
noncomputable def asL : List Addr := [16, 113, 127, 2,3,6,15,17,18,20,21,22,23,24,25,26,27,29,30,38,42,43,44,45,47,48,49,88,89,90,91,93,94,95,96,98,99,100,101,102,103,105,106,107,108,110,111,112,114,115,117,118,119,120,121,122,124,125,126,129,130,131,132,134,135,136,137,138,139,141,142]
theorem asL_eq : ∀ P, asL = (KH P).map (·.1) := fun P => by kernel_rfl
noncomputable abbrev hkL : Hook := kHook KH asL asL_eq
theorem looks_a (w : World) (os : OsState) : (staticsOk (importedModules prg.main.body) (boot_heap w.params) (hp_17 w.params) && namesBound prg (hp_17 w.params) && gensDone ⟨hp_17 w.params, #[], {}, 2297, os⟩ && laidKept (boot_heap w.params) (hp_17 w.params)) = true := by kernel_rfl
theorem looks_q (w : World) (os : OsState) : PySem.W.Fast.tw4187177175401517315 qL looseL (PySem.W.Fast.tw5923862056798008813 prg.main.body) (fun _ => true) true ⟨hp_17 w.params, #[], {}, 2297, os⟩ = openGood qL looseL := by kernel_rfl
theorem looks_b (w : World) (os : OsState) : openSeen qL looseL (importedModules prg.main.body) (fun _ => true) true ⟨hp_17 w.params, #[], {}, 2297, os⟩ = openGood qL looseL := by
  have h := looks_q w os
  rw [← PySem.W.Fast.te4187177175401517315, ← PySem.W.Fast.te5923862056798008813] at h
  exact h
theorem looks_c (w : World) (os : OsState) : hkL.obs ⟨hp_17 w.params, #[], {}, 2297, os⟩ = hkL.val w := by kernel_rfl
theorem left : LeftO prg qL looseL (fun _ => true) hkL.obs hkL.val 40000 :=
  LeftO.of_pieces (H₀ := boot_heap) (H₁ := hp_17) (gs₀ := #[]) (gs₁ := #[]) top_open top_size top_run (by decide) fun w => by
    funext os
    exact Prod.ext (looks_a w os) (Prod.ext (looks_b w os) (looks_c w os))
end Mine
end

section
open PySem PySem.W PySem.Calls PyProof.Rows
set_option maxRecDepth 100000
namespace Mine

noncomputable def Kp (h h' : Heap) : Prop := ∀ b o, h.get? b = some o → b ∉ tabs3 → h'.get? b = some o
theorem Kp.refl (h : Heap) : Kp h h := fun _ _ e _ => e
theorem Kp.trans {h h' h'' : Heap} (x : Kp h h') (y : Kp h' h'') : Kp h h'' := fun b o e n => y b o (x b o e n) n
theorem Kp.of_keeps {h h' : Heap} (k : ∀ b o, h.get? b = some o → h'.get? b = some o) : Kp h h' := fun b o e _ => k b o e

theorem K_no_tab (P : Params) (a : Addr) (o : Obj) (e : (K P).lookup a = some o) : a ∉ tabs3 := by
  intro h
  simp only [tabs3, List.mem_cons, List.not_mem_nil, or_false] at h
  rcases h with rfl | rfl | rfl <;> cases e

structure Gl (w : World) (h : Heap) : Prop where
  k : (K w.params).In h
  g : ∃ mg, h.Ns mainGlobals mg
  b : ∃ mb, h.Ns builtinsNs mb ∧ ∀ x : Str, x ≠ "__name__" → mb x = bootBuiltins x
  lim : h.NoLimit
  bm : ∃ ob, h.get? 4 = some ob ∧ ob.cls = .type "module" ∧ ob.dict = some builtinsNs ∧ ob.data = .plain
theorem Ns_kp {h h' : Heap} {a : Addr} {m : Str → Option Value} (x : h.Ns a m) (k : Kp h h') (ha : a ∉ tabs3) : h'.Ns a m :=
  let ⟨o, es, ep, e, r⟩ := x; ⟨o, es, ep, k _ _ e ha, r⟩
theorem Gl.kp {w : World} {h h' : Heap} (x : Gl w h) (k : Kp h h') : Gl w h' :=
  ⟨fun a o e => k a o (x.k a o e) (K_no_tab _ a o e), let ⟨mg, y⟩ := x.g; ⟨mg, Ns_kp y k (by decide)⟩, let ⟨mb, y, z⟩ := x.b; ⟨mb, Ns_kp y k (by decide), z⟩,
    let ⟨mc, y, z⟩ := x.lim; ⟨mc, Ns_kp y k (by decide), z⟩, let ⟨ob, y, z⟩ := x.bm; ⟨ob, k _ _ y (by decide), z⟩⟩
theorem Gl.keeps {w : World} {h h' : Heap} (x : Gl w h) (k : ∀ b o, h.get? b = some o → h'.get? b = some o) : Gl w h' := x.kp (Kp.of_keeps k)

structure Ar (n : Nat) (A : Around) : Prop where
  hh : A.handled = none
  hd : A.depth + n ≤ 900
  hu : A.units + 64 * n ≤ 9000
theorem Ar.deeper {n : Nat} {A : Around} (x : Ar (n + 1) A) (env : Env) : Ar n (A.deeper env) :=
  ⟨x.hh, by have := x.hd; show A.depth + 1 + n ≤ 900; omega, by have := x.hu; show A.units + 3 + 64 * n ≤ 9000; omega⟩
theorem Ar.in1 {n : Nat} {A : Around} (x : Ar (n + 1) A) : Ar n A.in1 :=
  ⟨x.hh, by have := x.hd; show A.depth + n ≤ 900; omega, by have := x.hu; show A.units + 1 + 64 * n ≤ 9000; omega⟩
theorem Ar.le {n m : Nat} {A : Around} (x : Ar n A) (h : m ≤ n) : Ar m A := ⟨x.hh, by have := x.hd; omega, by have := x.hu; omega⟩
theorem Ar.room {n : Nat} {A : Around} (x : Ar n A) : A.depth < recursionLimit := by have := x.hd; show A.depth < 1000; omega
theorem Ar.unit {n : Nat} {A : Around} (x : Ar n A) : A.units + 64 < cLine := by have := x.hu; show A.units + 64 < 9900; omega

section
variable {w : World} {A : Around} {E : Value → Shared → Prop} {s : Shared} {Q : Value → Shared → Prop}

theorem enter {a : Addr} {fd : FuncData} {d : Option Addr} {sl : Array (Option Value)} {body : List Stmt} {vals : List Value} {binds : List (Str × Value)} {n : Nat}
    (hA : Ar n A) (X : Gl w s.heap) (ho : (K w.params).lookup a = some ⟨.type "function", d, .func fd, sl⟩) (hcd : codeIn (K w.params) fd.code fd.qualname = true)
    (hbody : fd.body = .stmts body) (hbind : bindArgs fd ⟨vals, []⟩ = pure binds) (hclo : fd.closure = [])
    (hkind : (binds.all fun y => fd.scope.names.lookup y.1 == some .local || fd.scope.names.lookup y.1 == some .cell) = true)
    (hco : fd.scope.isCoroutine = false) (hgen : fd.scope.isGenerator = false) (hk : fd.scope.kind = .function)
    (h : ∀ s₁, InCallC s (callEnvC fd s.heap.objs.size a).locals (bindL (callEnvC fd s.heap.objs.size a).kindOf binds fun _ => none) (callEnvC fd s.heap.objs.size a).cells
        (bindC (callEnvC fd s.heap.objs.size a).kindOf binds fun _ => none) s₁ →
      wpAny (model prg w) (A.deeper (callEnvC fd s.heap.objs.size a)) (execs body (callEnvC fd s.heap.objs.size a)) (fun f s' => Q (match f with | .ret v => v | _ => .none) s') (fun _ _ => False) s₁) :
    wpAny (model prg w) A (PySem.call (.ref a) vals) Q E s := by
  refine wpAny_call (codeAny_call_cells hA.room (X.k _ _ ho) rfl X.lim (codeRec_of X.k hcd) hbody hbind hclo (kindsX hkind _) (fun s₁ x => ?_) hco hgen hk)
  exact wpAny_mono (h s₁ x) (fun _ _ q => q) fun _ _ f => f.elim

theorem gname {env : Env} {x : Str} {pos : Pos} {v : Value} (X : Gl w s.heap) (e : nsIn (K w.params) mainGlobals x = some (some v)) (hk : env.scope.kind = .function) (hx : env.kindOf x = some .globalImplicit)
    (hg : env.globals = mainGlobals) (h : Q v s) (hd : (x == ("__debug__" : Str)) = false := by decide) : wpAny (model prg w) A (eval (.Name x pos) env) Q E s := by
  obtain ⟨mg, y⟩ := X.g
  exact Name_function_global hk hx (loadGlobal_global (env := env) (hg ▸ y) (mg_of X.k y e) h) hd
theorem bname {env : Env} {x : Str} {pos : Pos} {v : Value} (X : Gl w s.heap) (e : nsIn (K w.params) mainGlobals x = some none) (hv : bootBuiltins x = some v) (hn : x ≠ "__name__") (hk : env.scope.kind = .function) (hx : env.kindOf x = some .globalImplicit)
    (hg : env.globals = mainGlobals) (hb : env.builtins = builtinsNs) (h : Q v s) (hd : (x == ("__debug__" : Str)) = false := by decide) : wpAny (model prg w) A (eval (.Name x pos) env) Q E s := by
  obtain ⟨mg, y⟩ := X.g
  obtain ⟨mb, z, zz⟩ := X.b
  exact Name_function_global hk hx (loadGlobal_builtin (env := env) (hg ▸ y) (mg_none_of X.k y e) (hb ▸ z) ((zz x hn).trans hv) h) hd
end
end Mine
end

section
open PySem PySem.W PySem.Calls PyProof.Rows
set_option maxRecDepth 100000
namespace Mine
noncomputable abbrev Up (h h' : Heap) : Prop := ∀ b o, h.get? b = some o → h'.get? b = some o
theorem keeps_of {s₀ s₁ s₂ : Shared} (a : Keeps s₀ s₁) (b : Keeps s₁ s₂) : Keeps s₀ s₂ := by
  obtain ⟨h1, t1, rfl, k1⟩ := a
  obtain ⟨h2, t2, rfl, k2⟩ := b
  exact ⟨h2, t2, rfl, fun x o e => k2 x o (k1 x o e)⟩
theorem keeps_rfl (s : Shared) : Keeps s s := ⟨s.heap, s.toks, rfl, fun _ _ e => e⟩
theorem kup {s s' : Shared} (k : Keeps s s') : Up s.heap s'.heap := by obtain ⟨h, t, rfl, k⟩ := k; exact k
theorem isList_keeps {h h' : Heap} {a : Addr} {vs : Array Value} (x : h.IsList a vs) (k : Up h h') : h'.IsList a vs := let ⟨o, e, r⟩ := x; ⟨o, k _ _ e, r⟩
theorem isList_lt {h : Heap} {a : Addr} {vs : Array Value} (x : h.IsList a vs) : a < h.objs.size := let ⟨_, e, _⟩ := x; Heap.lt_size e
theorem none_of_up {h h' : Heap} {a : Addr} (k : Up h h') (e : h'.get? a = none) : h.get? a = none := by
  cases q : h.get? a with
  | none => rfl
  | some o => rw [k a o q] at e; cases e
theorem none_size (h : Heap) {a : Addr} (l : h.objs.size ≤ a) : h.get? a = none := by
  cases q : h.get? a with
  | none => rfl
  | some o => exact absurd (Heap.lt_size q) (Nat.not_lt.mpr l)
theorem up_push (h : Heap) (o : Obj) : Up h (h.push o) := fun _ _ e => Heap.get?_push_of_some _ e
theorem paired_get {α β : Type} {F : α → β → Prop} {xs : List α} {ys : List β} (p : Paired F xs ys) : ∀ (i : Nat) (x : α), xs[i]? = some x → ∃ y, ys[i]? = some y ∧ F x y := by
  induction p with
  | nil => intro i x h; simp at h
  | cons h _ ih =>
    intro i x hx
    cases i with
    | zero => simp at hx; subst hx; exact ⟨_, rfl, h⟩
    | succ i => simpa using ih i x (by simpa using hx)

noncomputable def IterOk (w : World) (A : Around) (xv : Value) (s₁ : Shared) (n : Nat) (P : Nat → Value → Prop) : Prop :=
  ∀ (Q : Value → Shared → Prop) (E : Value → Shared → Prop), (∀ (o : Obj) (St : Nat → Heap → Prop) (fp : List Addr),
    (∀ A' : Around, A'.handled = none → Walks prg w A' s₁.heap.objs.size fp [s₁.heap.objs.size] n P St) → (∀ b ∈ fp, b < s₁.heap.objs.size + 1) → o.isFreed = false → St 0 (s₁.heap.push o) →
      Q (.ref s₁.heap.objs.size) { s₁ with heap := s₁.heap.push o }) → wpAny (model prg w) A (pyIter xv) Q E s₁
theorem iter_list {w : World} {A : Around} {s : Shared} {l : Addr} {vs : List Value} (hl : s.heap.IsList l vs.toArray) : IterOk w A (.ref l) s vs.length (fun i v => vs[i]? = some v) := by
  intro Q E h
  refine wpAny_pyIter_list hl ?_
  have W : ∀ A' : Around, A'.handled = none → Walks prg w A' s.heap.objs.size [s.heap.objs.size, l] [s.heap.objs.size] vs.length (fun i v => vs[i]? = some v) (fun i h => h.IsListIter s.heap.objs.size l i ∧ h.IsList l vs.toArray) := fun A' hA' => by
    simpa using Walks.list (prog := prg) (w := w) hA' s.heap.objs.size l (Nat.ne_of_lt (isList_lt hl)) vs.toArray
  refine h _ _ _ W ?_ rfl ⟨⟨_, Heap.get?_push_size _ rfl, rfl, rfl⟩, isList_keeps hl (up_push _ _)⟩
  intro b hb
  have := isList_lt hl
  simp only [List.mem_cons, List.not_mem_nil, or_false] at hb
  rcases hb with rfl | rfl
  · exact Nat.lt_succ_self _
  · exact Nat.lt_succ_of_lt this
theorem iter_str {w : World} {A : Around} {s : Shared} {x : Str} {t : Tok} : IterOk w A (.str x t) s x.cps.size (SignAt x) := by
  intro Q E h
  cases ha : x.cps.all (· < 128)
  · exact wpAny_pyIter_wide ha (h _ _ [s.heap.objs.size] (fun A' hA => Walks.strWide hA _ x t) (by simp) rfl ⟨_, Heap.get?_push_size _ rfl, rfl, rfl⟩)
  · exact wpAny_pyIter_ascii ha (h _ _ [s.heap.objs.size] (fun A' hA => Walks.strAscii hA _ x t) (by simp) rfl ⟨_, Heap.get?_push_size _ rfl, rfl, rfl⟩)

theorem ints_at {vs : List Value} {ns : List Int} (h : IntsAre vs ns) {i : Nat} {v : Value} (e : vs[i]? = some v) : ∃ k t, v = Value.int k t ∧ k ∈ ns := by
  induction h generalizing i with
  | nil => simp at e
  | cons _ _ _ ih =>
    cases i with
    | zero => simp at e; subst e; exact ⟨_, _, rfl, .head _⟩
    | succ i => obtain ⟨k, t, a, b⟩ := ih (by simpa using e); exact ⟨k, t, a, .tail _ b⟩
theorem eq_of_get {α : Type} {xs ys : List α} (hl : xs.length = ys.length) (h : ∀ (j : Nat) v, xs[j]? = some v → ys[j]? = some v) : xs = ys := by
  refine List.ext_getElem? fun i => ?_
  by_cases hi : i < xs.length
  · rw [h i xs[i] (List.getElem?_eq_getElem hi)]; exact List.getElem?_eq_getElem hi
  · rw [List.getElem?_eq_none (by omega), List.getElem?_eq_none (by omega)]
theorem paired_ints {f : Int → Value} {vs ys : List Value} {ns : List Int} (p : Paired (fun v y => ∃ i t, v = Value.int i t ∧ y = f i) vs ys) (h : IntsAre vs ns) : ys = ns.map f := by
  induction h generalizing ys with
  | nil => cases p; rfl
  | cons n t _ ih =>
    cases p with
    | cons hd tl =>
      obtain ⟨i, t', e, rfl⟩ := hd
      cases e
      rw [ih tl]; rfl
theorem getD_some {α : Type} {xs : List α} {i : Nat} (d : α) (h : i < xs.length) : xs[i]? = some (xs.getD i d) := by
  rw [List.getD_eq_getElem?_getD, List.getElem?_eq_getElem h]; rfl
section
variable {w : World} {A : Around} {E : Value → Shared → Prop} {s s₁ : Shared}
theorem item_list {value slice : PySem.Expr} {l : Addr} {vs : List Value} {k : Int} {u : Tok} {Q : Value → Shared → Prop} (hl : s.heap.IsList l vs.toArray) (h0 : 0 ≤ k) (h1 : k < vs.length) (hf : vs.length ≤ 100000)
    (h : Q (vs.getD k.toNat .none) s) (hs : subscripted slice false (.ref l) (.int k u) = operate [.ref l, .int k u] (getItem (.ref l) (.int k u)) := by with_unfolding_all rfl) :
    wpAny (model prg w) A (subscriptTail value slice (.ref l) (.int k u)) Q E s :=
  tail_any hl.typeIs slot_list_getitem.lookup (wpAny_getItem_list hl h0 (by omega) (by simpa using getD_some (xs := vs) .none (by omega)) h) hs
theorem comp_gen {elt iter : PySem.Expr} {x : Str} {px : Pos} {scope : Scope} {cl : List (Str × Addr)} {pos : Pos} {env : Env} {Q : Value → Shared → Prop} {xv : Value} {n : Nat} {P : Nat → Value → Prop} (F : Value → Value → Prop)
    (hclos : closureFor scope env = pure cl) (hcell : ∀ y ∈ scope.names, y.2 ≠ .cell) (hkind : scope.kind = .function)
    (hnames : ∀ y ∈ scope.names, y.2 = .local → scope.names.lookup y.1 = some .local) (hx : scope.names.lookup x = some .local)
    (hh : A.handled = none) (hn : n ≤ 1000)
    (hev : ∀ Q' : Value → Shared → Prop, Q' xv s₁ → wpAny (model prg w) A (eval iter env) Q' E s) (hit : IterOk w A xv s₁ n P)
    (helt : ∀ C i v s₃ m₃ E', s₁.heap.objs.size ≤ C → P i v → s₃.heap.Ns C m₃ → m₃ x = some v → Up s₁.heap s₃.heap →
      wpAny (model prg w) A (eval elt (compEnvC scope cl C env)) (fun y s₄ => F v y ∧ Keeps s₃ s₄) E' s₃)
    (hQ : ∀ D h' tk (ys vs : List Value), s₁.heap.get? D = none → h'.IsList D ys.toArray → vs.length = n → (∀ (j : Nat) v, vs[j]? = some v → P j v) → Paired F vs ys → Up s₁.heap h' → Q (.ref D) { s₁ with heap := h', toks := tk })
    (hs : ∀ x, foldedSetIterable iter env x = pure x := by intro _; rfl) :
    wpAny (model prg w) A (eval (.ListComp elt [⟨.Name x px, iter, [], 0⟩] scope pos) env) Q E s := by
  refine wpAny_ListComp_free (fun _ => true) F hclos hcell hkind hnames hx (hev _ (hit _ _ fun o St fp W hfp hof hst => ?_)) hs
  refine ⟨_, _, _, _, _, _, rfl, W A hh, ?_, hst, ?_, ⟨?_, ?_⟩, ?_⟩
  · rw [sizeLine_eq]; omega
  · intro b hb
    show b < (s₁.heap.push o).objs.size
    rw [Heap.size_push]; exact hfp b hb
  · intro C i v s₃ m₃ E' hC hP hns hm hk htk
    rw [List.forIn_nil]
    exact wpAny_pure ⟨rfl, keeps_rfl _⟩
  · intro C i v s₃ m₃ E' hC hP hp hns hm hk htk
    refine helt C i v s₃ m₃ E' (Nat.le_trans (Nat.le_of_lt (by rw [Heap.size_push]; exact Nat.lt_succ_self _)) hC) hP hns hm fun b ob e => hk b ob ?_ (up_push _ _ _ _ e)
    simp only [List.mem_cons, List.not_mem_nil, or_false]
    exact Nat.ne_of_lt (Heap.lt_size e)
  · intro D h' tk ys vs hD hl hpl hlen hP hF hk
    have up : Up s₁.heap h' := fun b ob e => hk b ob (by simp only [List.mem_cons, List.not_mem_nil, or_false]; exact Nat.ne_of_lt (Heap.lt_size e)) (up_push _ _ _ _ e)
    refine hQ D h' tk ys.toList vs (none_of_up (up_push _ _) hD) (by simpa using hl) hlen hP ?_ up
    have e : vs.filter (fun _ => true) = vs := by simp
    rw [e] at hF
    exact hF

theorem joined_spec {a b : Addr} {va vb : List Value} {nb : List Int} (hA : Ar 4 A) (X : Gl w s.heap) (ha : s.heap.IsList a va.toArray) (hb : s.heap.IsList b vb.toArray) (ib : IntsAre vb nb)
    (pb : ∀ x ∈ nb, 0 ≤ x ∧ x < va.length) (hl : va.length ≤ 100) (hn : nb.length ≤ 100) {Q : Value → Shared → Prop}
    (hQ : ∀ D s', s.heap.get? D = none → Keeps s s' → s'.heap.IsList D (nb.map fun i => va.getD i.toNat .none).toArray → Q (.ref D) s') :
    wpAny (model prg w) A (PySem.call (.ref 111) [.ref a, .ref b]) Q E s := by
  refine enter (body := bodyAt 12) hA X rfl rfl rfl rfl rfl rfl rfl rfl rfl (fun s₁ x => ?_)
  have ks : Keeps s s₁ := x.done
  have hb₁ := isList_keeps hb (kup ks)
  have ha₁ := isList_keeps ha (kup ks)
  refine wpAny_execs_cons (wpAny_Return_some ?_)
  refine comp_gen (s₁ := s₁) (fun v y => ∃ i t, v = Value.int i t ∧ y = va.getD i.toNat .none) rfl (by decide) rfl (by decide) (by decide) hA.hh (by rw [ib.length]; omega)
    (fun Q' q => wpAny_Name (ldLC x rfl rfl rfl q)) (iter_list hb₁) ?_ ?_
  · intro C i v s₃ m₃ E' hC hP hns hm hk
    obtain ⟨k, t, rfl, hk0⟩ := ints_at ib hP
    have hc : s₁.heap.IsCell (s.heap.objs.size + 1) (some (.ref a)) := x.cell (Str.ofString "one") _ rfl
    refine Subscript_ (wpAny_Name (wpAny_loadName_cell (c := s.heap.objs.size + 1) rfl rfl rfl (hc.keeps hk) ?_))
    refine wpAny_Name (wpAny_loadName_local rfl rfl hns hm ?_)
    obtain ⟨h0, h1⟩ := pb k hk0
    exact item_list (isList_keeps ha₁ hk) h0 h1 (by omega) ⟨⟨k, t, rfl, rfl⟩, keeps_rfl _⟩
  · intro D h' tk ys vs hD hl' hlen hP hF hk
    refine hQ D _ (none_of_up (kup ks) hD) (keeps_of ks ⟨_, _, rfl, hk⟩) ?_
    have e : ys = nb.map fun i => va.getD i.toNat .none := by
      obtain rfl := eq_of_get hlen hP
      exact paired_ints hF ib
    show h'.IsList D _
    rw [← e]; exact hl'
end
end Mine
end

section
open PySem PySem.W PySem.Calls PyProof.Rows
set_option maxRecDepth 100000
namespace Mine
inductive LitInts : List PySem.Expr → List Int → Prop
  | nil : LitInts [] []
  | cons (n : Int) (k : Nat) (pos : Pos) {es ns} : LitInts es ns → LitInts (.Constant (.int n) k pos :: es) (n :: ns)
section
variable {w : World} {A : Around} {E : Value → Shared → Prop} {s : Shared}
theorem spliced_lits {M : Model} {env : Env} {pos : Pos} : ∀ {elts : List PySem.Expr} {ns : List Int} (_ : LitInts elts ns) (s : Shared) (Q : List Value → Shared → Prop),
    (∀ vs tk, IntsAre vs ns → Q vs { s with toks := tk }) → wpAny M A (spliced (backTo pos (starEach elts env))) Q E s := by
  intro elts ns l
  induction l with
  | nil => intro s Q h; exact spliced_none (h [] s.toks .nil)
  | cons n k p _ ih =>
    intro s Q h
    refine spliced_more (wpAny_Constant_int (ih _ _ fun vs tk hv => ?_))
    exact h _ tk (.cons n _ hv)
theorem list_lits {env : Env} {pos : Pos} {elts : List PySem.Expr} {ns : List Int} {Q : Value → Shared → Prop} (l : LitInts elts ns) (hn : ns.length ≤ 1000)
    (h : ∀ vs tk, IntsAre vs ns → Q (.ref s.heap.objs.size) { s with heap := s.heap.push { cls := .type "list", data := .seq vs.toArray }, toks := tk }) :
    wpAny (model prg w) A (eval (.List elts pos) env) Q E s := by
  refine List_ (spliced_lits l _ _ fun vs tk hv => ?_)
  refine wpAny_newObj_type (h vs tk hv) ?_
  show vs.toArray.size ≤ sizeLine
  rw [List.size_toArray, hv.length, sizeLine_eq]; omega
noncomputable def LInts (h : Heap) (a : Addr) (ns : List Int) : Prop := ∃ vs : List Value, h.IsList a vs.toArray ∧ IntsAre vs ns
theorem LInts.up {h h' : Heap} {a : Addr} {ns : List Int} (x : LInts h a ns) (k : Up h h') : LInts h' a ns := let ⟨vs, l, i⟩ := x; ⟨vs, isList_keeps l k, i⟩
theorem lints_push {h : Heap} {vs : List Value} {ns : List Int} (hv : IntsAre vs ns) : LInts (h.push { cls := .type "list", data := .seq vs.toArray }) h.objs.size ns := ⟨vs, ⟨_, Heap.get?_push_size _ rfl, rfl, _, rfl⟩, hv⟩

noncomputable def mv (c : Nat) : List Int := if c = 102 then [1, 0, 2, 3, 4] else if c = 105 then [0, 2, 1, 3, 4] else if c = 108 then [0, 1, 3, 2, 4] else if c = 116 then [0, 1, 2, 4, 3] else [4, 0, 1, 2, 3]
noncomputable def letters5 : List Nat := [102, 105, 108, 116, 115]
noncomputable def Moves (w : World) (h : Heap) (d : Addr) : Prop :=
  ∃ kvs, h.DictOf (PySem.strKind prg w) d kvs ∧ ∀ c ∈ letters5, ∃ a, valueAt kvs ⟨#[c]⟩ = some (.ref a) ∧ LInts h a (mv c)
theorem dictOf_up {h h' : Heap} {d : Addr} {w : World} {kvs : List (Str × Value)} (x : h.DictOf (PySem.strKind prg w) d kvs) (k : Up h h') : h'.DictOf (PySem.strKind prg w) d kvs :=
  let ⟨o, es, ep, e, r⟩ := x; ⟨o, es, ep, k _ _ e, r⟩
theorem Moves.up {w : World} {h h' : Heap} {d : Addr} (x : Moves w h d) (k : Up h h') : Moves w h' d :=
  let ⟨kvs, m, f⟩ := x; ⟨kvs, dictOf_up m k, fun c hc => let ⟨a, e, l⟩ := f c hc; ⟨a, e, l.up k⟩⟩
set_option maxHeartbeats 400000 in
theorem moves_spec (hA : Ar 2 A) (X : Gl w s.heap) {Q : Value → Shared → Prop} (hQ : ∀ d s', s.heap.get? d = none → Keeps s s' → Moves w s'.heap d → Q (.ref d) s') :
    wpAny (model prg w) A (PySem.call (.ref 106) []) Q E s := by
  refine enter (body := bodyAt 11) (binds := []) hA X rfl rfl rfl rfl rfl rfl rfl rfl rfl (fun s₁ x => ?_)
  have ks : Keeps s s₁ := x.done
  refine wpAny_execs_cons ?_
  refine wpAny_Return_some ?_
  refine wpAny_Dict_walk (knd := PySem.strKind prg w) ?_ ?_ ?_ ?_ ?_
  · rfl
  · rfl
  · simp
  · decide
  refine pairTrees_cons_walk ?_
  refine wpAny_Constant_str ?_
  refine list_lits (ns := [1, 0, 2, 3, 4]) ?_ ?_ ?_
  · exact (.cons _ _ _ (.cons _ _ _ (.cons _ _ _ (.cons _ _ _ (.cons _ _ _ .nil)))))
  · decide
  intro v1 t1 i1
  refine pairTrees_cons_walk ?_
  refine wpAny_Constant_str ?_
  refine list_lits (ns := [0, 2, 1, 3, 4]) ?_ ?_ ?_
  · exact (.cons _ _ _ (.cons _ _ _ (.cons _ _ _ (.cons _ _ _ (.cons _ _ _ .nil)))))
  · decide
  intro v2 t2 i2
  refine pairTrees_cons_walk ?_
  refine wpAny_Constant_str ?_
  refine list_lits (ns := [0, 1, 3, 2, 4]) ?_ ?_ ?_
  · exact (.cons _ _ _ (.cons _ _ _ (.cons _ _ _ (.cons _ _ _ (.cons _ _ _ .nil)))))
  · decide
  intro v3 t3 i3
  refine pairTrees_cons_walk ?_
  refine wpAny_Constant_str ?_
  refine list_lits (ns := [0, 1, 2, 4, 3]) ?_ ?_ ?_
  · exact (.cons _ _ _ (.cons _ _ _ (.cons _ _ _ (.cons _ _ _ (.cons _ _ _ .nil)))))
  · decide
  intro v4 t4 i4
  refine pairTrees_cons_walk ?_
  refine wpAny_Constant_str ?_
  refine list_lits (ns := [4, 0, 1, 2, 3]) ?_ ?_ ?_
  · exact (.cons _ _ _ (.cons _ _ _ (.cons _ _ _ (.cons _ _ _ (.cons _ _ _ .nil)))))
  · decide
  intro v5 t5 i5
  refine pairTrees_nil_walk ?_
  dsimp only
  generalize hH0 : s₁.heap.push { cls := Value.type "dict", data := Data.dict #[] } = H0
  generalize hH1 : H0.push { cls := Value.type "list", data := Data.seq v1.toArray } = H1
  generalize hH2 : H1.push { cls := Value.type "list", data := Data.seq v2.toArray } = H2
  generalize hH3 : H2.push { cls := Value.type "list", data := Data.seq v3.toArray } = H3
  generalize hH4 : H3.push { cls := Value.type "list", data := Data.seq v4.toArray } = H4
  generalize hH5 : H4.push { cls := Value.type "list", data := Data.seq v5.toArray } = H5
  have u0 : Up s₁.heap H0 := hH0 ▸ up_push _ _
  have u1 : Up H0 H1 := hH1 ▸ up_push _ _
  have u2 : Up H1 H2 := hH2 ▸ up_push _ _
  have u3 : Up H2 H3 := hH3 ▸ up_push _ _
  have u4 : Up H3 H4 := hH4 ▸ up_push _ _
  have u5 : Up H4 H5 := hH5 ▸ up_push _ _
  have l1 : LInts H1 H0.objs.size [1, 0, 2, 3, 4] := hH1 ▸ lints_push i1
  have l2 : LInts H2 H1.objs.size [0, 2, 1, 3, 4] := hH2 ▸ lints_push i2
  have l3 : LInts H3 H2.objs.size [0, 1, 3, 2, 4] := hH3 ▸ lints_push i3
  have l4 : LInts H4 H3.objs.size [0, 1, 2, 4, 3] := hH4 ▸ lints_push i4
  have l5 : LInts H5 H4.objs.size [4, 0, 1, 2, 3] := hH5 ▸ lints_push i5
  refine ⟨[(Str.ofString "f", _), (Str.ofString "i", _), (Str.ofString "l", _), (Str.ofString "t", _), (Str.ofString "s", _)],
    ⟨strKind_is _ _ _ _, rfl, strKind_is _ _ _ _, rfl, strKind_is _ _ _ _, rfl, strKind_is _ _ _ _, rfl, strKind_is _ _ _ _, rfl, trivial⟩, ?_, ?_⟩
  · exact dictOf_up (hH0 ▸ Heap.DictOf.new s₁.heap : H0.DictOf (PySem.strKind prg w) s₁.heap.objs.size []) fun b o e => u5 _ _ (u4 _ _ (u3 _ _ (u2 _ _ (u1 _ _ e))))
  · intro h' hd hs
    have up5 : Up s₁.heap H5 := fun b o e => u5 _ _ (u4 _ _ (u3 _ _ (u2 _ _ (u1 _ _ (u0 _ _ e)))))
    have up : Up s₁.heap h' := fun b o e => (hs.2 b (Nat.ne_of_lt (Heap.lt_size e))).trans (up5 b o e)
    have z0 : s₁.heap.objs.size < H0.objs.size := by rw [← hH0, Heap.size_push]; exact Nat.lt_succ_self _
    have z1 : H0.objs.size < H1.objs.size := by rw [← hH1, Heap.size_push]; exact Nat.lt_succ_self _
    have z2 : H1.objs.size < H2.objs.size := by rw [← hH2, Heap.size_push]; exact Nat.lt_succ_self _
    have z3 : H2.objs.size < H3.objs.size := by rw [← hH3, Heap.size_push]; exact Nat.lt_succ_self _
    have z4 : H3.objs.size < H4.objs.size := by rw [← hH4, Heap.size_push]; exact Nat.lt_succ_self _
    have at' : ∀ {a : Addr} {ns : List Int}, LInts H5 a ns → s₁.heap.objs.size < a → LInts h' a ns := fun {a ns} x l => by
      obtain ⟨vs, ⟨o, e, r⟩, i⟩ := x
      exact ⟨vs, ⟨o, (hs.2 a (Nat.ne_of_gt l)).trans e, r⟩, i⟩
    refine hQ _ _ (none_of_up (kup ks) (none_size _ (Nat.le_refl _))) (keeps_of ks ⟨_, _, rfl, up⟩) ⟨_, hd, ?_⟩
    intro c hc
    simp only [letters5, List.mem_cons, List.not_mem_nil, or_false] at hc
    rcases hc with rfl | rfl | rfl | rfl | rfl
    · exact ⟨_, rfl, at' (l1.up fun b o e => u5 _ _ (u4 _ _ (u3 _ _ (u2 _ _ e)))) z0⟩
    · exact ⟨_, rfl, at' (l2.up fun b o e => u5 _ _ (u4 _ _ (u3 _ _ e))) (Nat.lt_trans z0 z1)⟩
    · exact ⟨_, rfl, at' (l3.up fun b o e => u5 _ _ (u4 _ _ e)) (Nat.lt_trans (Nat.lt_trans z0 z1) z2)⟩
    · exact ⟨_, rfl, at' (l4.up fun b o e => u5 _ _ e) (Nat.lt_trans (Nat.lt_trans (Nat.lt_trans z0 z1) z2) z3)⟩
    · exact ⟨_, rfl, at' l5 (Nat.lt_trans (Nat.lt_trans (Nat.lt_trans (Nat.lt_trans z0 z1) z2) z3) z4)⟩
end
end Mine
end

section
open PySem PySem.W PySem.Calls PyProof.Rows
set_option maxRecDepth 100000
namespace Mine
section
variable {w : World} {A : Around} {E : Value → Shared → Prop} {s : Shared} {Q : Value → Shared → Prop} {env : Env}
theorem bcall {pos : Pos} {id : String} {e : PySem.Expr} {rest : List PySem.Expr}
    (h : wpAny (model prg w) A (spliced (backTo pos (starEach (e :: rest) env))) (fun vs s₁ => wpAny (model prg w) A (PySem.call (.builtin id) vs) Q E s₁) E s)
    (he : starEach (e :: rest) env = (false, eval e env) :: starEach rest env := by rfl) (hplain : (backTo pos (starEach rest env)).any (·.1) = false := by rfl) :
    wpAny (model prg w) A (callWith pos (.builtin id) [] (backTo pos (starEach (e :: rest) env)) []) Q E s := by
  rw [he] at h ⊢
  exact callWith_builtin (by show (false || (backTo pos (starEach rest env)).any (·.1)) = false; rw [hplain]; rfl) (evalArgs_plain h)
noncomputable def b1nums : List Int := [65024, 65025, 65026, 65027, 65028, 65029, 6150, 65030, 65031, 65032, 65033, 6155, 6156, 6157, 8203, 8204, 8205, 65034, 65035, 65036, 65037, 65038, 65039, 173, 847, 8288, 65279]
theorem isInt_self (k : Int) (t : Tok) : Value.isInt k (.int k t) = true := by simp [Value.isInt]
theorem isInt_iff {k n : Int} {t : Tok} : Value.isInt k (.int n t) = true ↔ k = n := by
  constructor
  · intro h
    obtain ⟨t', e⟩ := Value.isInt_shape h
    cases e; rfl
  · rintro rfl; exact isInt_self _ _
noncomputable def okEl (e : Int × Value) : Bool := match e.2 with | .int k _ => e.1 == hashInt k | _ => false
theorem okEl_int {e : Int × Value} (h : okEl e = true) : ∃ k t, e.2 = .int k t ∧ e.1 = hashInt k := by
  obtain ⟨a, v⟩ := e
  cases v <;> first | (simp [okEl] at h; done) | skip
  rename_i k t
  exact ⟨k, t, rfl, by simpa [okEl] using h⟩
noncomputable def numOf (e : Int × Value) : Int := match e.2 with | .int k _ => k | _ => 0
theorem el_mem : ∀ {es : List (Int × Value)}, es.all okEl = true → ∀ k : Int, (es.map numOf).contains k = true ↔ ∃ e ∈ es, Value.isInt k e.2 = true
  | [], _, k => by simp
  | (a, v) :: r, h, k => by
    rw [List.all_cons, Bool.and_eq_true] at h
    obtain ⟨n, t, e1, _⟩ := okEl_int h.1
    simp only at e1
    subst e1
    have ih := el_mem h.2 k
    rw [List.contains_iff_mem] at ih ⊢
    rw [List.map_cons, List.mem_cons, ih]
    constructor
    · rintro (rfl | ⟨e, he, q⟩)
      · exact ⟨_, .head _, isInt_iff.mpr rfl⟩
      · exact ⟨e, .tail _ he, q⟩
    · rintro ⟨e, he, q⟩
      cases he with
      | head => exact .inl (isInt_iff.mp q)
      | tail _ he => exact .inr ⟨e, he, q⟩
noncomputable def b1els : List (Int × Value) := [(65024, (.int 65024 229)), (65025, (.int 65025 230)), (65026, (.int 65026 231)), (65027, (.int 65027 232)), (65028, (.int 65028 233)), (65029, (.int 65029 234)), (6150, (.int 6150 215)), (65030, (.int 65030 235)), (65031, (.int 65031 236)), (65032, (.int 65032 237)), (65033, (.int 65033 238)), (6155, (.int 6155 216)), (6156, (.int 6156 217)), (6157, (.int 6157 218)), (8203, (.int 8203 219)), (8204, (.int 8204 220)), (8205, (.int 8205 221)), (65034, (.int 65034 239)), (65035, (.int 65035 240)), (65036, (.int 65036 241)), (65037, (.int 65037 242)), (65038, (.int 65038 243)), (65039, (.int 65039 244)), (173, (.int 173 213)), (847, (.int 847 214)), (8288, (.int 8288 222)), (65279, (.int 65279 223))]
theorem b1els_ok : b1els.all okEl = true := by decide +kernel
theorem b1els_nums : b1els.map numOf = b1nums := by decide +kernel
theorem b1_set (X : Gl w s.heap) : s.heap.SetOf (PySem.intKind prg w) 38 (fun k => b1nums.contains k) 27 := by
  refine ⟨_, b1els.toArray, _, _, X.k 38 _ rfl, ⟨rfl, rfl, rfl⟩, rfl, ?_, ?_, by decide, by rfl, rfl⟩
  · intro e he
    obtain ⟨k, t, e1, e2⟩ := okEl_int (List.all_eq_true.mp b1els_ok e he)
    exact ⟨⟨k, by rw [e1]; exact isInt_self k t, e2⟩, by rw [e1]; rfl⟩
  · intro k
    have := el_mem b1els_ok k
    rw [b1els_nums] at this
    exact this
theorem b1_spec {c : Nat} {t : Tok} (hA : Ar 2 A) (X : Gl w s.heap) (hQ : ∀ s', Keeps s s' → Q (.bool (b1nums.contains (c : Int))) s') :
    wpAny (model prg w) A (PySem.call (.ref 48) [.str ⟨#[c]⟩ t]) Q E s := by
  refine enter (body := bodyAt 6) hA X rfl rfl rfl rfl rfl rfl rfl rfl rfl (fun s₁ x => ?_)
  have ks : Keeps s s₁ := x.done
  have X₁ := X.keeps (kup ks)
  refine wpAny_execs_cons ?_
  refine wpAny_Return_some ?_
  refine wpAny_Compare1 ?_
  refine Call_ (bname X₁ (by kernel_rfl) boot_ord (by decide) rfl rfl rfl rfl ?_)
  refine bcall (spliced_more (wpAny_Name (ldLC x rfl rfl rfl (spliced_none ?_))))
  refine PySem.P.ord_of_char ?_
  refine gname (v := .ref 38) (X₁ : Gl w s₁.heap) (by kernel_rfl) rfl rfl rfl ?_
  refine wpAny_inSet_of (knd := PySem.intKind prg w) (k := (c : Int)) (isInt_self (c : Int) s₁.toks) rfl (b1_set X₁) ?_
  exact hQ _ (keeps_of ks ⟨_, _, rfl, fun _ _ e => e⟩)
noncomputable def okEnt (e : DictEntry) : Bool := match e.key with | .int k _ => e.hash == hashInt k | _ => false
theorem okEnt_int {e : DictEntry} (h : okEnt e = true) : ∃ k t, e.key = .int k t ∧ e.hash = hashInt k := by
  obtain ⟨a, v, x⟩ := e
  cases v <;> first | (simp [okEnt] at h; done) | skip
  rename_i k t
  exact ⟨k, t, rfl, by simpa [okEnt] using h⟩
theorem b3ents_ok : b3ents.all okEnt = true := by decide +kernel
noncomputable def b3get (c : Nat) : Option Value := findBy Value.isInt b3ents.toArray (c : Int)
theorem b3_map (X : Gl w s.heap) : s.heap.MapOf (PySem.intKind prg w) 49 (fun k => findBy Value.isInt b3ents.toArray k) := by
  refine ⟨_, b3ents.toArray, _, X.k 49 _ rfl, ⟨rfl, rfl, rfl⟩, rfl, ?_, fun _ => rfl⟩
  intro e he
  obtain ⟨k, t, e1, e2⟩ := okEnt_int (List.all_eq_true.mp b3ents_ok e (by simpa using he))
  exact ⟨k, by rw [e1]; exact isInt_self k t, e2⟩
theorem b3_spec {c : Nat} {t : Tok} {x : Str} (hA : Ar 3 A) (X : Gl w s.heap) (hx : (∃ u, b3get c = some (.str x u)) ∨ (b3get c = none ∧ Txt.lower ⟨#[c]⟩ = x ∧ PySem.Builtin.Str.tooLong x.length = false))
    (hQ : ∀ s' t', Keeps s s' → Q (.str x t') s') :
    wpAny (model prg w) A (PySem.call (.ref 94) [.str ⟨#[c]⟩ t]) Q E s := by
  refine enter (body := bodyAt 8) hA X rfl rfl rfl rfl rfl rfl rfl rfl rfl (fun s₁ x₁ => ?_)
  have ks : Keeps s s₁ := x₁.done
  have X₁ := X.keeps (kup ks)
  refine wpAny_execs_cons ?_
  refine wpAny_Assign_Name ?_
  refine wpAny_Call_method1_late (by rfl) (by rfl) (by rfl) ?_
  refine gname (v := .ref 49) X₁ (by kernel_rfl) rfl rfl rfl ?_
  have hm := b3_map X₁
  refine ⟨"dict", _, PySem.F.plainAttrs_dict, PySem.F.slot_dict_get, PySem.F.type_dict_get, hm.typeIs, hm.noDict, ?_⟩
  refine callWith_builtin (by rfl) (evalArgs_plain (Calls.spliced_cons ?_))
  refine Call_ (bname X₁ (by kernel_rfl) boot_ord (by decide) rfl rfl rfl rfl ?_)
  refine bcall (spliced_more (wpAny_Name (ldLC x₁ rfl rfl rfl (spliced_none ?_))))
  refine PySem.P.ord_of_char ?_
  refine Calls.spliced_nil ?_
  refine call_meetsIn PySem.F.slot_dict_get hm.typeIs PySem.F.entry_dict_get (PySem.F.args_dict_get_2 _ _) (meets_dict_get (PySem.intKind prg w) 49 (isInt_self (c : Int) s₁.toks) (by rfl)) ⟨_, hm, ?_⟩
  show wpAny _ _ _ _ _ _
  have xt : InCallC s _ _ _ _ { s₁ with toks := s₁.toks + 1 + 1 } := x₁.tok (s₁.toks + 1 + 1)
  refine stLC xt rfl rfl fun s₂ x₂ => ?_
  have k2 : Keeps s s₂ := x₂.done
  refine wpAny_execs_cons ?_
  refine wpAny_If (wpAny_isTrue_Compare1 ?_)
  refine wpAny_Name (ldLC x₂ rfl rfl (by rfl) ?_)
  rcases hx with ⟨u, hu⟩ | ⟨hn, hl, hf⟩
  · rw [show findBy Value.isInt b3ents.toArray (c : Int) = some (.str x u) from hu] at x₂ ⊢
    refine wpAny_Constant_none ?_
    refine isnot_str_none (wpAny_truthy_bool ?_)
    refine wpAny_execs_cons ?_
    refine wpAny_Return_some (wpAny_Name (ldLC x₂ rfl rfl rfl ?_))
    exact hQ _ _ k2
  · rw [show findBy Value.isInt b3ents.toArray (c : Int) = none from hn] at x₂ ⊢
    refine wpAny_Constant_none ?_
    refine wpAny_isNot_self rfl (wpAny_truthy_bool ?_)
    refine wpAny_execs_nil ?_
    refine wpAny_execs_cons ?_
    refine wpAny_Return_some (Call_method0 (by rfl) (by rfl) (wpAny_Name (ldLC x₂ rfl rfl rfl (SB.lower (by rw [hl]; exact hf) ?_))))
    rw [hl]
    exact hQ _ _ (keeps_of k2 ⟨_, _, rfl, fun _ _ e => e⟩)
end
end Mine
end

section
open PySem PySem.W PySem.Calls PyProof.Rows
set_option maxRecDepth 100000
namespace Mine
section
variable {w : World} {A : Around} {E : Value → Shared → Prop} {s : Shared} {Q : Value → Shared → Prop} {env : Env}
theorem tcall {pos : Pos} {T : String} {e : PySem.Expr} {rest : List PySem.Expr}
    (h : wpAny (model prg w) A (spliced (backTo pos (starEach (e :: rest) env))) (fun vs s₁ => wpAny (model prg w) A (PySem.call (.type T) vs) Q E s₁) E s)
    (he : starEach (e :: rest) env = (false, eval e env) :: starEach rest env := by rfl) (hplain : (backTo pos (starEach rest env)).any (·.1) = false := by rfl) :
    wpAny (model prg w) A (callWith pos (.type T) [] (backTo pos (starEach (e :: rest) env)) []) Q E s := PyProof.Rows.callWith_type1 h he hplain
noncomputable def IntAt (n : Nat) (i : Nat) (v : Value) : Prop := i < n ∧ ∃ t, v = .int (i : Int) t
theorem Walks_lt {I : Addr} {fp wr : List Addr} {n : Nat} {P : Nat → Value → Prop} {St : Nat → Heap → Prop} (W : Walks prg w A I fp wr n P St) : Walks prg w A I fp wr n (fun i v => i < n ∧ P i v) St where
  sub := W.sub
  frame := W.frame
  item := fun i s Q E hi st hQ => W.item i s Q E hi st fun v h' tk p => hQ v h' tk ⟨hi, p⟩
  done := W.done
  self := W.self
theorem rsize (n : Nat) : Builtin.Range.rangeSize 0 n 1 = n := by
  unfold Builtin.Range.rangeSize
  simp
  try omega
theorem rsmall (n : Nat) (hn : n ≤ 1000) : Builtin.Range.small 0 n 1 = true := by
  unfold Builtin.Range.small Builtin.Range.rangeFitsLong
  rw [rsize]
  simp
  omega
theorem iter_range {r : Addr} {n : Nat} {t u v : Tok} (hr : IsRange s.heap r 0 n 1 t u v) (hn : n ≤ 1000) : IterOk w A (.ref r) s n (IntAt n) := by
  intro Q E h
  refine wpAny_pyIter_range hr (rsmall n hn) ?_
  rw [rsize]
  refine h _ (fun i h => IsRangeIter h s.heap.objs.size (0 + (i : Nat) * 1) ((n : Int) - (i : Nat)) 1) [s.heap.objs.size] (fun A' hA' => ?_) (by simp) rfl (by simpa using Heap.get?_push_size s.heap rfl)
  have W := Walks_lt (w := w) (Walks.range (prog := prg) (w := w) hA' s.heap.objs.size 0 1 n)
  have e : (fun (i : Nat) (v : Value) => i < n ∧ ∃ t, v = Value.int (0 + (i : Int) * 1) t) = IntAt n := by
    funext i v
    simp [IntAt]
  rw [e] at W
  exact W
noncomputable def codes : List Int := [102, 70, 64256, 64257, 64258, 64259, 64260, 64261, 223, 115, 383, 84, 119868, 173]
noncomputable def dig (n : Int) (k : Nat) : Nat := ((n.fdiv (14 ^ k)).fmod 14).toNat
noncomputable def code (n : Int) (k : Nat) : Nat := (codes.getD (dig n k) 0).toNat
theorem inC_up {s₀ s s' : Shared} {L : Addr} {m cm : Str → Option Value} {cs : List (Str × Addr)} (x : InCallC s₀ L m cs cm s) (k : Keeps s s') : InCallC s₀ L m cs cm s' := by
  obtain ⟨h', tk, rfl, hk⟩ := k
  obtain ⟨⟨⟨h1, t1, e⟩, ns, kp, fr⟩, c, ap, ab⟩ := x
  subst e
  exact ⟨⟨⟨h', tk, rfl⟩, ns.keeps hk, fun b o e => hk _ _ (kp b o e), fr⟩, fun n a e => (c n a e).keeps hk, ap, ab⟩
theorem dig_lt (n : Int) (k : Nat) : dig n k < 14 := by
  unfold dig
  have h1 := Int.fmod_nonneg_of_pos (n.fdiv (14 ^ k)) (b := 14) (by decide)
  have h2 := Int.fmod_lt_of_pos (n.fdiv (14 ^ k)) (b := 14) (by decide)
  omega
noncomputable def Ch (a : Addr) (s s' : Shared) : Prop := ∃ h' tk, s' = { s with heap := h', toks := tk } ∧ ∀ b o, b ≠ a → s.heap.get? b = some o → h'.get? b = some o
theorem Ch.up {a : Addr} {s s' : Shared} (c : Ch a s s') : ∀ b o, b ≠ a → s.heap.get? b = some o → s'.heap.get? b = some o := by obtain ⟨h', tk, rfl, k⟩ := c; exact k
theorem list_ne_ns {h : Heap} {l L : Addr} {vs : Array Value} {m : Str → Option Value} (x : h.IsList l vs) (y : h.Ns L m) : l ≠ L := by
  rintro rfl
  obtain ⟨o, e, _, n, d⟩ := x
  obtain ⟨o', es, ep, e', d', _⟩ := y
  rw [e] at e'; cases e'; rw [d] at d'; cases d'
theorem list_ne_cell {h : Heap} {l c : Addr} {vs : Array Value} {v : Option Value} (x : h.IsList l vs) (y : h.IsCell c v) : l ≠ c := by
  rintro rfl
  obtain ⟨o, e, _, n, d⟩ := x
  obtain ⟨o', e', d'⟩ := y
  rw [e] at e'; cases e'; rw [d] at d'; cases d'
theorem isList_at {h h' : Heap} {l : Addr} {vs : Array Value} (x : h.IsList l vs) (k : ∀ o, h.get? l = some o → h'.get? l = some o) : h'.IsList l vs := let ⟨o, e, r⟩ := x; ⟨o, k _ e, r⟩
theorem lints_at {h h' : Heap} {l : Addr} {ns : List Int} (x : LInts h l ns) (k : ∀ o, h.get? l = some o → h'.get? l = some o) : LInts h' l ns := let ⟨vs, i, r⟩ := x; ⟨vs, isList_at i k, r⟩
section
variable {M : Model} {s₀ : Shared} {m cm : Str → Option Value} {U : Unit → Shared → Prop}
theorem stL {n : Str} {v : Value} (x : InCallC s₀ env.locals m env.cells cm s) (hk : env.scope.kind = .function) (hl : env.kindOf n = some .local)
    (h : ∀ s', InCallC s₀ env.locals (fun y => if y = n then some v else m y) env.cells cm s' → Ch env.locals s s' → U () s') : wpAny M A (storeName env n v) U E s := by
  refine wpAny_storeName_local hl x.toInCall.ns (fun h' hn' hs' => h _ ⟨⟨?_, hn', fun b o e => ?_, x.toInCall.fresh⟩, fun k c hc => ?_, x.apart, x.above⟩ ⟨h', _, rfl, fun b o hb e => (hs'.2 b hb).trans e⟩) (by rw [hk]; rfl)
  · obtain ⟨h₁, tk, rfl⟩ := x.toInCall.same
    exact ⟨h', _, rfl⟩
  · exact hs'.extBut b o (Nat.ne_of_lt (Nat.lt_of_lt_of_le (Heap.lt_size e) x.toInCall.fresh)) (x.toInCall.keep b o e)
  · exact (x.cell k c hc).sameBut hs' (Nat.ne_of_gt (x.above k c (mem_of_lookup hc)))
theorem stC {n : Str} {c : Addr} {v : Value} (x : InCallC s₀ env.locals m env.cells cm s) (hk : env.scope.kind = .function) (hl : env.kindOf n = some .cell)
    (hc : env.cells.lookup n = some c)
    (h : ∀ s', InCallC s₀ env.locals m env.cells (fun y => if y = n then some v else cm y) s' → Ch c s s' → U () s') : wpAny M A (storeName env n v) U E s := by
  have hLc := x.above n c (mem_of_lookup hc)
  refine wpAny_storeName_cell hk hl hc (x.cell n c hc) fun h' hc' hs' => h _ ⟨⟨?_, x.toInCall.ns.sameBut hs' (Nat.ne_of_lt hLc), fun b o e => ?_, x.toInCall.fresh⟩, fun k c' hk' => ?_, x.apart, x.above⟩ ⟨h', s.toks, rfl, fun b o hb e => (hs'.2 b hb).trans e⟩
  · obtain ⟨h₁, tk, rfl⟩ := x.toInCall.same
    exact ⟨h', _, rfl⟩
  · exact hs'.extBut b o (Nat.ne_of_lt (Nat.lt_trans (Nat.lt_of_lt_of_le (Heap.lt_size e) x.toInCall.fresh) hLc)) (x.toInCall.keep b o e)
  · by_cases hkn : k = n
    · subst hkn
      rw [hc] at hk'; cases hk'
      simpa using hc'
    · rw [if_neg hkn]
      exact (x.cell k c' hk').sameBut hs' fun e => hkn (name_of_addr x.apart (mem_of_lookup hk') (e ▸ mem_of_lookup hc))
end
theorem ints_getD {vs : List Value} {ns : List Int} (h : IntsAre vs ns) : ∀ {k : Nat}, k < ns.length → ∃ t, vs.getD k .none = .int (ns.getD k 0) t := by
  induction h with
  | nil => intro k hk; exact absurd hk (Nat.not_lt_zero _)
  | cons n t _ ih =>
    intro k hk
    cases k with
    | zero => exact ⟨t, rfl⟩
    | succ k => obtain ⟨t', e⟩ := ih (k := k) (by simpa using hk); exact ⟨t', by simpa using e⟩
theorem len_cons {α : Type} {n : Nat} {l : List α} (h : l.length = n + 1) : ∃ a t, l = a :: t ∧ t.length = n := by
  cases l with
  | nil => cases h
  | cons a t => exact ⟨a, t, rfl, Nat.succ.inj h⟩
theorem paired_three {g : Nat → Str} {vs ys : List Value} (p : Paired (fun v y => ∃ (i : Nat) (t u : Tok), v = Value.int i t ∧ y = Value.str (g i) u) vs ys) (hl : vs.length = 3) (hP : ∀ (j : Nat) v, vs[j]? = some v → IntAt 3 j v) :
    ∃ u0 u1 u2, ys = strValues [(g 0, u0), (g 1, u1), (g 2, u2)] := by
  obtain ⟨a, vs0, rfl, hl0⟩ := len_cons hl
  obtain ⟨b, vs1, rfl, hl1⟩ := len_cons hl0
  obtain ⟨c, vs2, rfl, hl2⟩ := len_cons hl1
  obtain rfl := List.eq_nil_of_length_eq_zero hl2
  obtain ⟨_, ta, rfl⟩ := hP 0 a rfl
  obtain ⟨_, tb, rfl⟩ := hP 1 b rfl
  obtain ⟨_, tc, rfl⟩ := hP 2 c rfl
  cases p with
  | cons h0 p =>
    cases p with
    | cons h1 p =>
      cases p with
      | cons h2 p =>
        cases p
        obtain ⟨i0, _, u0, e0, rfl⟩ := h0
        obtain ⟨i1, _, u1, e1, rfl⟩ := h1
        obtain ⟨i2, _, u2, e2, rfl⟩ := h2
        simp only [Value.int.injEq] at e0 e1 e2
        obtain rfl : 0 = i0 := by omega
        obtain rfl : 1 = i1 := by omega
        obtain rfl : 2 = i2 := by omega
        exact ⟨u0, u1, u2, rfl⟩
theorem pow14 {i : Nat} (hi : i < 3) : (14 : Int) ^ i ≠ 0 ∧ ((14 : Int) ^ i).natAbs < 1073741824 := by
  match i, hi with
  | 0, _ => decide
  | 1, _ => decide
  | 2, _ => decide
theorem text_spec {n : Int} {t : Tok} (hA : Ar 3 A) (X : Gl w s.heap) (hQ : ∀ s' t', Keeps s s' → Q (.str ⟨#[code n 0, code n 1, code n 2]⟩ t') s') :
    wpAny (model prg w) A (PySem.call (.ref 99) [.int n t]) Q E s := by
  refine enter (body := bodyAt 10) hA X rfl rfl rfl rfl rfl rfl rfl rfl rfl (fun s₁ x₁ => ?_)
  refine wpAny_execs_cons ?_
  refine wpAny_Assign_Name ?_
  refine list_lits (ns := codes) ?_ ?_ ?_
  · exact .cons _ _ _ (.cons _ _ _ (.cons _ _ _ (.cons _ _ _ (.cons _ _ _ (.cons _ _ _ (.cons _ _ _ (.cons _ _ _ (.cons _ _ _ (.cons _ _ _ (.cons _ _ _ (.cons _ _ _ (.cons _ _ _ (.cons _ _ _ .nil)))))))))))))
  · decide
  intro vs tk hv
  have k1 : Keeps s₁ { s₁ with heap := s₁.heap.push { cls := .type "list", data := .seq vs.toArray }, toks := tk } := ⟨_, _, rfl, up_push _ _⟩
  have l1 : LInts ({ s₁ with heap := s₁.heap.push { cls := .type "list", data := .seq vs.toArray }, toks := tk } : Shared).heap s₁.heap.objs.size codes := lints_push hv
  have y₁ := inC_up x₁ k1
  have c0 := y₁.cell (Str.ofString "codes") (s.heap.objs.size + 2) rfl
  refine stC y₁ rfl rfl rfl fun s₂ x₂ ch => ?_
  have k2 : Keeps s s₂ := x₂.done
  have X₂ := X.keeps (kup k2)
  have l2 : LInts s₂.heap s₁.heap.objs.size codes := lints_at l1 fun o e => ch.up _ _ (by obtain ⟨vs', il, _⟩ := l1; exact list_ne_cell il c0) e
  refine wpAny_execs_cons ?_
  refine wpAny_Return_some ?_
  refine Call_method1 (by rfl) (by rfl) (by rfl) (wpAny_Constant_str (SB.join ?_))
  refine comp_gen (s₁ := { s₂ with heap := s₂.heap.push { cls := .type "range", data := .fields #[.int 0 (s₂.toks + 1 + 1), .int 3 (s₂.toks + 1), .int 1 (s₂.toks + 1 + 1 + 1)] }, toks := s₂.toks + 1 + 1 + 1 + 1 }) (xv := .ref s₂.heap.objs.size) (n := 3) (P := IntAt 3)
    (fun v y => ∃ (i : Nat) (t u : Tok), v = Value.int i t ∧ y = Value.str ⟨#[code n i]⟩ u) (by rfl) (by decide) (by rfl) (by decide) (by decide) hA.hh (by decide) ?_ ?_ ?_ ?_
  · intro Q' q
    refine Call_ (bname (s := { s₂ with toks := s₂.toks + 1 }) X₂ (by kernel_rfl) boot_range (by decide) rfl rfl rfl rfl ?_)
    refine tcall (spliced_more (wpAny_Constant_int (spliced_none ?_)))
    exact call_range_1 q
  · exact iter_range (Heap.get?_push_size _ rfl) (by decide)
  · intro C i v s₃ m₃ E' hC hP hns hm hk
    obtain ⟨hi, ti, rfl⟩ := hP
    have u3 : Up s₂.heap s₃.heap := fun b o e => hk b o (up_push _ _ _ _ e)
    have cn : s₂.heap.IsCell (s.heap.objs.size + 1) (some (.int n t)) := x₂.cell (Str.ofString "n") _ rfl
    have cc : s₂.heap.IsCell (s.heap.objs.size + 2) (some (.ref s₁.heap.objs.size)) := x₂.cell (Str.ofString "codes") _ rfl
    have l3 : LInts s₃.heap s₁.heap.objs.size codes := lints_at l2 fun o e => u3 _ _ e
    have X₃ := X₂.keeps u3
    refine Call_ (bname X₃ (by kernel_rfl) boot_chr (by decide) rfl rfl rfl rfl ?_)
    refine bcall (spliced_more ?_)
    refine Subscript_ ?_
    refine wpAny_Name (wpAny_loadName_cell (c := s.heap.objs.size + 2) rfl rfl rfl (cc.keeps u3) ?_)
    refine wpAny_BinOp ?_
    refine wpAny_BinOp ?_
    refine wpAny_Name (wpAny_loadName_cell (c := s.heap.objs.size + 1) rfl rfl rfl (cn.keeps u3) ?_)
    refine wpAny_BinOp ?_
    refine wpAny_Constant_int ?_
    refine wpAny_Name (wpAny_loadName_local rfl rfl hns hm ?_)
    refine pow_int_small (by omega) (by omega) (by decide) ?_
    refine floordiv_int ?_ ?_ ?_
    · exact (pow14 hi).1
    · refine wpAny_Constant_int ?_
      refine mod_int' (by decide) ?_
      obtain ⟨vs', il, iv⟩ := l3
      have hd := dig_lt n i
      have e14 : (n.fdiv (14 ^ (i : Int).toNat)).fmod 14 = dig n i := by
        have h1 := Int.fmod_nonneg_of_pos (n.fdiv (14 ^ (i : Int).toNat)) (b := 14) (by decide)
        exact (Int.toNat_of_nonneg h1).symm
      have hlen : vs'.length = 14 := iv.length
      rw [e14]
      refine item_list il (by omega) (by rw [hlen]; omega) (by omega) ?_
      obtain ⟨tt, et⟩ := ints_getD iv (k := ((dig n i : Nat) : Int).toNat) (by show _ < 14; omega)
      rw [et]
      refine spliced_none ?_
      have hc : 0 ≤ codes.getD (dig n i) 0 ∧ codes.getD (dig n i) 0 ≤ 1114111 := (by decide : ∀ k < 14, 0 ≤ codes.getD k 0 ∧ codes.getD k 0 ≤ 1114111) _ hd
      refine chr_of_range hc.1 hc.2 ⟨⟨i, ti, _, rfl, rfl⟩, ?_⟩
      exact ⟨_, _, rfl, fun b o e => e⟩
    · exact Or.inl (PyProof.noPylong_small (pow14 hi).2)
  · intro D h' tk ys vs hD hl' hlen hP hF hk
    obtain ⟨u0, u1, u2, rfl⟩ := paired_three hF hlen hP
    refine ⟨D, _, rfl, hl', _, rfl, rfl, fun t' k => ?_⟩
    exact hQ _ t' (keeps_of k2 ⟨_, _, rfl, fun b o e => hk b o (up_push _ _ _ _ e)⟩)
end
end Mine
end

section
open PySem PySem.W PySem.Calls PyProof.Rows
set_option maxRecDepth 100000
set_option linter.unusedVariables false
namespace Mine
noncomputable def q13 : Str := "_law_deed.<locals>.<lambda>"
noncomputable def p13 : Pos := match bodyAt 13 with | [_, _, .Return (some (.Call _ (.Lambda _ _ _ p :: _) _ _)) _] => p | _ => default
noncomputable def T13 (h : Heap) : Prop := ∃ ps : Array Value, h.get? 113 = some (tabObj ps) ∧ TriplesOk ps.toList ∧ (codeAmong p13 ps.toList = none ∨ ∃ c', codeAmong p13 ps.toList = some (.ref c') ∧ c' ≠ 113 ∧ h.CodeRec (.ref c') q13)
theorem T13.up {h h' : Heap} (x : T13 h) (k : Up h h') : T13 h' := by
  obtain ⟨ps, e, t, r⟩ := x
  refine ⟨ps, k _ _ e, t, ?_⟩
  rcases r with r | ⟨c, r1, r2, r3⟩
  · exact .inl r
  · exact .inr ⟨c, r1, r2, r3.keeps k⟩
/-- the heap but for the one table, and that one well filled -/
noncomputable def Kd (h h' : Heap) : Prop := (∀ b o, b ≠ 113 → h.get? b = some o → h'.get? b = some o) ∧ (T13 h → T13 h')
theorem Kd.refl (h : Heap) : Kd h h := ⟨fun _ _ _ e => e, id⟩
theorem Kd.of_up {h h' : Heap} (k : Up h h') : Kd h h' := ⟨fun b o _ e => k b o e, fun x => x.up k⟩
theorem Kd.trans {h h' h'' : Heap} (x : Kd h h') (y : Kd h' h'') : Kd h h'' := ⟨fun b o n e => y.1 b o n (x.1 b o n e), fun t => y.2 (x.2 t)⟩
noncomputable def KS (s s' : Shared) : Prop := ∃ h' tk, s' = { s with heap := h', toks := tk } ∧ Kd s.heap h'
theorem KS.refl (s : Shared) : KS s s := ⟨s.heap, s.toks, rfl, .refl _⟩
theorem KS.of_keeps {s s' : Shared} (k : Keeps s s') : KS s s' := by obtain ⟨h, t, rfl, k⟩ := k; exact ⟨h, t, rfl, .of_up k⟩
theorem KS.trans {s s' s'' : Shared} (x : KS s s') (y : KS s' s'') : KS s s'' := by
  obtain ⟨h, t, rfl, k⟩ := x
  obtain ⟨h', t', rfl, k'⟩ := y
  exact ⟨h', t', rfl, k.trans k'⟩
theorem KS.d {s s' : Shared} (x : KS s s') : Kd s.heap s'.heap := by obtain ⟨h, t, rfl, k⟩ := x; exact k
theorem KS.get {s s' : Shared} (x : KS s s') : ∀ b o, b ≠ 113 → s.heap.get? b = some o → s'.heap.get? b = some o := x.d.1
theorem Gl.d {w : World} {h h' : Heap} (x : Gl w h) (k : Kd h h') : Gl w h' := x.kp fun b o e n => k.1 b o (fun q => n (by rw [q]; decide)) e
theorem Gl.size {w : World} {h : Heap} (x : Gl w h) : 143 ≤ h.objs.size := Heap.lt_size (x.k 142 _ (by rfl))
noncomputable def TG (w : World) (h : Heap) : Prop := Gl w h ∧ T13 h
theorem TG.d {w : World} {h h' : Heap} (x : TG w h) (k : Kd h h') : TG w h' := ⟨x.1.d k, k.2 x.2⟩
theorem ne113_list {h : Heap} {l : Addr} {vs : Array Value} (t : T13 h) (x : h.IsList l vs) : l ≠ 113 := by
  rintro rfl
  obtain ⟨ps, e, _⟩ := t
  obtain ⟨o, e', _, n, d⟩ := x
  rw [e] at e'; cases e'; cases d
theorem isList_d {h h' : Heap} {l : Addr} {vs : Array Value} (t : T13 h) (x : h.IsList l vs) (k : Kd h h') : h'.IsList l vs := isList_at x fun o e => k.1 _ _ (ne113_list t x) e
theorem lints_d {h h' : Heap} {l : Addr} {ns : List Int} (t : T13 h) (x : LInts h l ns) (k : Kd h h') : LInts h' l ns := let ⟨vs, i, r⟩ := x; ⟨vs, isList_d t i k, r⟩
theorem lints_ch {s s' : Shared} {a l : Addr} {ns : List Int} {m : Str → Option Value} (x : LInts s.heap l ns) (y : s.heap.Ns a m) (c : Ch a s s') : LInts s'.heap l ns :=
  let ⟨vs, i, r⟩ := x; ⟨vs, isList_at i fun o e => c.up _ _ (list_ne_ns i y) e, r⟩
theorem isList_ch {s s' : Shared} {a l : Addr} {vs : Array Value} {m : Str → Option Value} (x : s.heap.IsList l vs) (y : s.heap.Ns a m) (c : Ch a s s') : s'.heap.IsList l vs := isList_at x fun o e => c.up _ _ (list_ne_ns x y) e

/-- within a call: the frame's own names and cells, all else as at its start but for the table -/
structure Fn (s₀ : Shared) (env : Env) (m cm : Str → Option Value) (s : Shared) : Prop where
  ks : KS s₀ s
  ns : s.heap.Ns env.locals m
  fresh : s₀.heap.objs.size ≤ env.locals
  hi : 114 ≤ s₀.heap.objs.size
  cell : ∀ n c, env.cells.lookup n = some c → s.heap.IsCell c (cm n)
  apart : env.cells.Pairwise fun x y => x.2 ≠ y.2
  above : ∀ n c, (n, c) ∈ env.cells → env.locals < c
section
variable {s₀ s s' : Shared} {env : Env} {m cm : Str → Option Value}
theorem Fn.of (x : InCallC s₀ env.locals m env.cells cm s) (hi : 114 ≤ s₀.heap.objs.size) : Fn s₀ env m cm s := ⟨KS.of_keeps x.done, x.toInCall.ns, x.toInCall.fresh, hi, x.cell, x.apart, x.above⟩
theorem Fn.hiL (x : Fn s₀ env m cm s) : 113 < env.locals := Nat.lt_of_lt_of_le x.hi x.fresh
theorem ns_at {h h' : Heap} {a : Addr} {m : Str → Option Value} (x : h.Ns a m) (k : ∀ o, h.get? a = some o → h'.get? a = some o) : h'.Ns a m := let ⟨o, es, ep, e, r⟩ := x; ⟨o, es, ep, k _ e, r⟩
theorem cell_at {h h' : Heap} {a : Addr} {v : Option Value} (x : h.IsCell a v) (k : ∀ o, h.get? a = some o → h'.get? a = some o) : h'.IsCell a v := let ⟨o, e, r⟩ := x; ⟨o, k _ e, r⟩
theorem Fn.to (x : Fn s₀ env m cm s) (k : KS s s') : Fn s₀ env m cm s' :=
  ⟨x.ks.trans k, ns_at x.ns fun o e => k.get _ _ (Nat.ne_of_gt x.hiL) e, x.fresh, x.hi, fun n c e => cell_at (x.cell n c e) fun o e' => k.get _ _ (Nat.ne_of_gt (Nat.lt_trans x.hiL (x.above n c (mem_of_lookup e)))) e', x.apart, x.above⟩
variable {M : Model} {A : Around} {E : Value → Shared → Prop} {U : Unit → Shared → Prop} {Q : Value → Shared → Prop}
theorem Fn.ld {n : Str} {v : Value} {pos : Pos} (x : Fn s₀ env m cm s) (hk : env.scope.kind = .function) (hl : env.kindOf n = some .local) (hv : m n = some v) (h : Q v s) (hd : (n == ("__debug__" : Str)) = false := by decide) :
    wpAny M A (eval (.Name n pos) env) Q E s := wpAny_Name (wpAny_loadName_local hk hl x.ns hv h) hd
theorem Fn.ldc {n : Str} {v : Value} {c : Addr} {pos : Pos} (x : Fn s₀ env m cm s) (hk : env.scope.kind = .function) (hl : env.kindOf n = some .cell) (hc : env.cells.lookup n = some c) (hv : cm n = some v) (h : Q v s) (hd : (n == ("__debug__" : Str)) = false := by decide) :
    wpAny M A (eval (.Name n pos) env) Q E s := wpAny_Name (wpAny_loadName_cell hk hl hc (hv ▸ x.cell n c hc) h) hd
/-- an object that is no code -/
noncomputable def NoCode (h : Heap) (a : Addr) : Prop := ∃ o, h.get? a = some o ∧ ∀ vs, o.data = .fields vs → ∀ q t, vs[1]? ≠ some (.str q t)
theorem ch_t13 {h h' : Heap} {a : Addr} (na : NoCode h a) (n : 113 ≠ a) (k : ∀ b o, b ≠ a → h.get? b = some o → h'.get? b = some o) (x : T13 h) : T13 h' := by
  obtain ⟨ps, e, tr, r⟩ := x
  refine ⟨ps, k _ _ n e, tr, ?_⟩
  rcases r with r | ⟨c, r1, r2, r3⟩
  · exact .inl r
  · refine .inr ⟨c, r1, r2, ?_⟩
    obtain ⟨oa, ea, da⟩ := na
    obtain ⟨c', o, vs, t, e', g, d, r⟩ := r3
    exact ⟨c', o, vs, t, e', k _ _ (by rintro rfl; rw [ea] at g; cases g; exact da _ d _ _ r) g, d, r⟩
theorem ch_ks {a : Addr} (na : NoCode s.heap a) (x : KS s₀ s) (f : s₀.heap.objs.size ≤ a) (n : 113 < a) (c : Ch a s s') : KS s₀ s' := by
  obtain ⟨h', tk, rfl, k⟩ := c
  obtain ⟨h, t, rfl, k0⟩ := x
  have k' : ∀ b o, b ≠ a → h.get? b = some o → h'.get? b = some o := k
  exact ⟨h', tk, rfl, fun b o hb e => k' b o (Nat.ne_of_lt (Nat.lt_of_lt_of_le (Heap.lt_size e) f)) (k0.1 b o hb e), fun t0 => ch_t13 na (Nat.ne_of_lt n) k' (k0.2 t0)⟩
theorem ns_nf {h : Heap} {a : Addr} {m : Str → Option Value} (x : h.Ns a m) : NoCode h a := by
  obtain ⟨o, es, ep, e, d, _⟩ := x
  exact ⟨o, e, fun vs q => by rw [d] at q; cases q⟩
theorem cell_nf {h : Heap} {a : Addr} {v : Option Value} (x : h.IsCell a v) : NoCode h a := by
  obtain ⟨o, e, d⟩ := x
  exact ⟨o, e, fun vs q => by rw [d] at q; cases q⟩
theorem list_nf {h : Heap} {a : Addr} {v : Array Value} (x : h.IsList a v) : NoCode h a := by
  obtain ⟨o, e, _, _, d⟩ := x
  exact ⟨o, e, fun vs q => by rw [d] at q; cases q⟩
/-- an own object, neither names nor cell, has changed -/
theorem Fn.ch {a : Addr} (x : Fn s₀ env m cm s) (na : NoCode s.heap a) (hL : env.locals ≠ a) (hc : ∀ n c, env.cells.lookup n = some c → c ≠ a) (f : s₀.heap.objs.size ≤ a) (c : Ch a s s') : Fn s₀ env m cm s' :=
  ⟨ch_ks na x.ks f (Nat.lt_of_lt_of_le x.hi f) c, ns_at x.ns fun o e => c.up _ _ hL e, x.fresh, x.hi, fun n c' e => cell_at (x.cell n c' e) fun o e' => c.up _ _ (hc n c' e) e', x.apart, x.above⟩
noncomputable def Fields (h : Heap) (a : Addr) : Prop := ∃ o vs, h.get? a = some o ∧ o.data = .fields vs ∧ ∀ q t, vs[1]? ≠ some (.str q t)
theorem Fields.nf {h : Heap} {a : Addr} (x : Fields h a) : NoCode h a := by
  obtain ⟨o, vs, e, d, r⟩ := x
  exact ⟨o, e, fun vs' q => by rw [d] at q; cases q; exact r⟩
theorem Fields.ne_ns {h : Heap} {a L : Addr} {m : Str → Option Value} (x : Fields h a) (y : h.Ns L m) : L ≠ a := by
  rintro rfl
  obtain ⟨o, vs, e, d, r⟩ := x
  obtain ⟨o', es, ep, e', d', _⟩ := y
  rw [e] at e'; cases e'; rw [d] at d'; cases d'
theorem Fields.ne_cell {h : Heap} {a L : Addr} {v : Option Value} (x : Fields h a) (y : h.IsCell L v) : L ≠ a := by
  rintro rfl
  obtain ⟨o, vs, e, d, r⟩ := x
  obtain ⟨o', e', d'⟩ := y
  rw [e] at e'; cases e'; rw [d] at d'; cases d'
theorem Fields.ne_list {h : Heap} {a L : Addr} {v : Array Value} (x : Fields h a) (y : h.IsList L v) : L ≠ a := by
  rintro rfl
  obtain ⟨o, vs, e, d, r⟩ := x
  obtain ⟨o', e', _, _, d'⟩ := y
  rw [e] at e'; cases e'; rw [d] at d'; cases d'
theorem Fields.at {h h' : Heap} {a : Addr} (x : Fields h a) (k : ∀ o, h.get? a = some o → h'.get? a = some o) : Fields h' a := let ⟨o, vs, e, r⟩ := x; ⟨o, vs, k _ e, r⟩
theorem Fn.it {a : Addr} (x : Fn s₀ env m cm s) (na : Fields s.heap a) (f : s₀.heap.objs.size ≤ a) (c : Ch a s s') : Fn s₀ env m cm s' :=
  x.ch na.nf (na.ne_ns x.ns) (fun n c e => na.ne_cell (x.cell n c e)) f c
theorem Fn.li {a : Addr} {vs : Array Value} (x : Fn s₀ env m cm s) (na : s.heap.IsList a vs) (f : s₀.heap.objs.size ≤ a) (c : Ch a s s') : Fn s₀ env m cm s' :=
  x.ch (list_nf na) (list_ne_ns na x.ns).symm (fun n c e => (list_ne_cell na (x.cell n c e)).symm) f c
theorem Fn.st {n : Str} {v : Value} (x : Fn s₀ env m cm s) (hk : env.scope.kind = .function) (hl : env.kindOf n = some .local)
    (h : ∀ s', Fn s₀ env (fun y => if y = n then some v else m y) cm s' → Ch env.locals s s' → U () s') : wpAny M A (storeName env n v) U E s := by
  refine wpAny_storeName_local hl x.ns (fun h' hn' hs' => ?_) (by rw [hk]; rfl)
  have ch : Ch env.locals s { s with heap := h', toks := s.toks + 1 } := ⟨h', _, rfl, fun b o hb e => (hs'.2 b hb).trans e⟩
  refine h _ ⟨ch_ks (ns_nf x.ns) x.ks x.fresh x.hiL ch, hn', x.fresh, x.hi, fun k c hc => ?_, x.apart, x.above⟩ ch
  exact (x.cell k c hc).sameBut hs' (Nat.ne_of_gt (x.above k c (mem_of_lookup hc)))
theorem Fn.stc {n : Str} {c : Addr} {v : Value} (x : Fn s₀ env m cm s) (hk : env.scope.kind = .function) (hl : env.kindOf n = some .cell)
    (hc : env.cells.lookup n = some c)
    (h : ∀ s', Fn s₀ env m (fun y => if y = n then some v else cm y) s' → Ch c s s' → U () s') : wpAny M A (storeName env n v) U E s := by
  have hLc := x.above n c (mem_of_lookup hc)
  refine wpAny_storeName_cell hk hl hc (x.cell n c hc) fun h' hc' hs' => ?_
  have ch : Ch c s { s with heap := h' } := ⟨h', s.toks, rfl, fun b o hb e => (hs'.2 b hb).trans e⟩
  refine h _ ⟨ch_ks (cell_nf (x.cell n c hc)) x.ks (Nat.le_trans x.fresh (Nat.le_of_lt hLc)) (Nat.lt_trans x.hiL hLc) ch, x.ns.sameBut hs' (Nat.ne_of_lt hLc), x.fresh, x.hi, fun k c' hk' => ?_, x.apart, x.above⟩ ch
  by_cases hkn : k = n
  · subst hkn
    rw [hc] at hk'; cases hk'
    simpa using hc'
  · rw [if_neg hkn]
    exact (x.cell k c' hk').sameBut hs' fun e => hkn (name_of_addr x.apart (mem_of_lookup hk') (e ▸ mem_of_lookup hc))
end
/-- a walk whose state lives in firm objects: its own, and those of `fp` -/
structure Wk (w : World) (A : Around) (I : Addr) (fp : List Addr) (n : Nat) (P : Nat → Value → Prop) (St : Nat → Heap → Prop) : Prop where
  own : ∀ i h, St i h → Fields h I
  frame : ∀ i h h', St i h → (∀ b, b = I ∨ b ∈ fp → ∀ o, h.get? b = some o → (∃ vs, o.data = .fields vs) ∨ (∃ vs n, o.data = .seq vs n) → h'.get? b = some o) → St i h'
  item : ∀ i (s : Shared) (Q : Option Value → Shared → Prop) (E : Value → Shared → Prop), i < n → St i s.heap →
    (∀ v h' tk, P i v → St (i + 1) h' → (∀ b o, b ≠ I → s.heap.get? b = some o → h'.get? b = some o) → Q (some v) { s with heap := h', toks := tk }) → wpAny (model prg w) A (pyNext (.ref I)) Q E s
  done : ∀ (s : Shared) (Q : Option Value → Shared → Prop) (E : Value → Shared → Prop), St n s.heap →
    (∀ h' tk, (∀ b o, b ≠ I → s.heap.get? b = some o → h'.get? b = some o) → Q none { s with heap := h', toks := tk }) → wpAny (model prg w) A (pyNext (.ref I)) Q E s
  self : ∀ i (s : Shared) (Q : Value → Shared → Prop) (E : Value → Shared → Prop), St i s.heap → Q (.ref I) s → wpAny (model prg w) A (pyIter (.ref I)) Q E s
theorem Wk.of {w : World} {A : Around} {I : Addr} {fp fq : List Addr} {n : Nat} {P : Nat → Value → Prop} {St : Nat → Heap → Prop} (W : Walks prg w A I fq [I] n P St)
    (hf : ∀ b ∈ fq, b = I ∨ b ∈ fp) (hs : ∀ i h, St i h → ∀ b ∈ fq, ∀ o, h.get? b = some o → (∃ vs, o.data = .fields vs) ∨ (∃ vs n, o.data = .seq vs n)) (ho : ∀ i h, St i h → Fields h I) : Wk w A I fp n P St where
  own := ho
  frame := fun i h h' st k => W.frame i h h' st fun b hb o e => k b (hf b hb) o e (hs i h st b hb o e)
  item := fun i s Q E hi st hQ => W.item i s Q E hi st fun v h' tk p st' k => hQ v h' tk p st' fun b o hb e => k b o (by simpa using hb) e
  done := fun s Q E st hQ => W.done s Q E st fun h' tk k => hQ h' tk fun b o hb e => k b o (by simpa using hb) e
  self := W.self
noncomputable def IterF (w : World) (A : Around) (xv : Value) (s₁ : Shared) (fp : List Addr) (n : Nat) (P : Nat → Value → Prop) : Prop :=
  ∀ (Q : Value → Shared → Prop) (E : Value → Shared → Prop), (∀ (o : Obj) (St : Nat → Heap → Prop),
    (∀ A' : Around, A'.handled = none → Wk w A' s₁.heap.objs.size fp n P St) → o.isFreed = false → St 0 (s₁.heap.push o) →
      Q (.ref s₁.heap.objs.size) { s₁ with heap := s₁.heap.push o }) → wpAny (model prg w) A (pyIter xv) Q E s₁
section
variable {w : World} {A : Around} {s : Shared}
theorem iterF_list {l : Addr} {vs : List Value} (hl : s.heap.IsList l vs.toArray) : IterF w A (.ref l) s [l] vs.length (fun i v => vs[i]? = some v) := by
  intro Q E h
  refine wpAny_pyIter_list hl ?_
  refine h _ (fun i h => h.IsListIter s.heap.objs.size l i ∧ h.IsList l vs.toArray) (fun A' hA' => ?_) rfl ⟨⟨_, Heap.get?_push_size _ rfl, rfl, rfl⟩, isList_keeps hl (up_push _ _)⟩
  have W := Walks.list (prog := prg) (w := w) hA' s.heap.objs.size l (Nat.ne_of_lt (isList_lt hl)) vs.toArray
  simp only [List.size_toArray, List.getElem?_toArray] at W
  refine Wk.of W (by simp) ?_ (fun i h hs => ⟨_, _, hs.1.choose_spec.1, hs.1.choose_spec.2.2, by intro q t; simp⟩)
  rintro i h ⟨⟨o1, e1, c1, d1⟩, ⟨o2, e2, c2, n2, d2⟩⟩ b hb o e
  simp only [List.mem_cons, List.not_mem_nil, or_false] at hb
  rcases hb with rfl | rfl
  · rw [e1] at e; cases e; exact .inl ⟨_, d1⟩
  · rw [e2] at e; cases e; exact .inr ⟨_, _, d2⟩
theorem iterF_str {x : Str} {t : Tok} : IterF w A (.str x t) s [] x.cps.size (SignAt x) := by
  intro Q E h
  cases ha : x.cps.all (· < 128)
  · refine wpAny_pyIter_wide ha (h _ _ (fun A' hA => Wk.of (Walks.strWide hA _ x t) (by simp) ?_ (fun i h hs => ⟨_, _, hs.choose_spec.1, hs.choose_spec.2.2, by intro q t; simp⟩)) rfl ⟨_, Heap.get?_push_size _ rfl, rfl, rfl⟩)
    rintro i h ⟨o1, e1, c1, d1⟩ b hb o e
    simp only [List.mem_cons, List.not_mem_nil, or_false] at hb
    subst hb
    rw [e1] at e; cases e; exact .inl ⟨_, d1⟩
  · refine wpAny_pyIter_ascii ha (h _ _ (fun A' hA => Wk.of (Walks.strAscii hA _ x t) (by simp) ?_ (fun i h hs => ⟨_, _, hs.choose_spec.1, hs.choose_spec.2.2, by intro q t; simp⟩)) rfl ⟨_, Heap.get?_push_size _ rfl, rfl, rfl⟩)
    rintro i h ⟨o1, e1, c1, d1⟩ b hb o e
    simp only [List.mem_cons, List.not_mem_nil, or_false] at hb
    subst hb
    rw [e1] at e; cases e; exact .inl ⟨_, d1⟩
theorem iterF_range {r : Addr} {n : Nat} {t u v : Tok} (hr : IsRange s.heap r 0 n 1 t u v) (hn : n ≤ 1000) : IterF w A (.ref r) s [] n (IntAt n) := by
  intro Q E h
  refine wpAny_pyIter_range hr (rsmall n hn) ?_
  rw [rsize]
  refine h _ (fun i h => IsRangeIter h s.heap.objs.size (0 + (i : Nat) * 1) ((n : Int) - (i : Nat)) 1) (fun A' hA' => ?_) rfl (by simpa using Heap.get?_push_size s.heap rfl)
  have W := Walks_lt (w := w) (Walks.range (prog := prg) (w := w) hA' s.heap.objs.size 0 1 n)
  have e : (fun (i : Nat) (v : Value) => i < n ∧ ∃ t, v = Value.int (0 + (i : Int) * 1) t) = IntAt n := by
    funext i v
    simp [IntAt]
  rw [e] at W
  refine Wk.of W (by simp) ?_ (fun i h hs => ⟨_, _, hs, rfl, by intro q t; simp [rawInt]⟩)
  intro i h hst b hb o e
  simp only [List.mem_cons, List.not_mem_nil, or_false] at hb
  subst hb
  have hst' : h.get? s.heap.objs.size = some _ := hst
  rw [hst'] at e; cases e; exact .inl ⟨_, rfl⟩
theorem Wk.shift {I : Addr} {fp : List Addr} {n : Nat} {P : Nat → Value → Prop} {St : Nat → Heap → Prop} (W : Wk w A I fp n P St) (k : Nat) (hk : k ≤ n) : Wk w A I fp (n - k) (fun i => P (i + k)) (fun i => St (i + k)) where
  own := fun i h st => W.own _ h st
  frame := fun i h h' st => W.frame _ h h' st
  item := fun i s Q E hi st hQ => W.item (i + k) s Q E (by omega) st fun v h' tk p st' => hQ v h' tk p (by rw [Nat.add_right_comm]; exact st')
  done := fun s Q E st hQ => W.done s Q E (by rw [Nat.sub_add_cancel hk] at st; exact st) hQ
  self := fun i s Q E st hQ => W.self (i + k) s Q E st hQ
theorem for_gen {target : PySem.Expr} {body : List Stmt} {env : Env} {I : Addr} {fp : List Addr} {n : Nat} {P : Nat → Value → Prop} {St : Nat → Heap → Prop} {R : Result → Shared → Prop} (W : Wk w A I fp n P St) (J : Nat → Shared → Prop)
    (hJ : ∀ i s h' tk, J i s → St i s.heap → (∀ b o, b ≠ I → s.heap.get? b = some o → h'.get? b = some o) → J i { s with heap := h', toks := tk })
    (step : ∀ i v s₁, i < n → P i v → J i s₁ → St (i + 1) s₁.heap → wpAny (model prg w) A (assign target env v) (fun _ s₂ => wpAny (model prg w) A (execs body env)
      (fun f s₃ => match f with | .next => J (i + 1) s₃ ∧ St (i + 1) s₃.heap | .ret v => R (.ok (.ret v)) s₃ | _ => False) (fun _ _ => False) s₂) (fun _ _ => False) s₁)
    (done : ∀ s₁, J n s₁ → R (.ok .next) s₁) (h0 : J 0 s) (st0 : St 0 s.heap) (ht : ∀ v, letOwnedTupleGo target (.ref I) v = pure () := by intro _; rfl) : codeAny (model prg w) A (.forLoop target (.ref I) body [] env) R s := by
  refine codeAny_forLoop (fun k s => ∃ i, i + k = n ∧ J i s ∧ St i s.heap) ?_ n ⟨0, by omega, h0, st0⟩ ht
  rintro k s₁ ⟨i, hk, hj, hst⟩
  cases k with
  | zero =>
    obtain rfl : i = n := by omega
    refine W.done _ _ _ hst fun h' tk kk => ?_
    exact wpAny_execs_nil (done _ (hJ _ _ _ _ hj hst kk))
  | succ k =>
    refine W.item i _ _ _ (by omega) hst fun v h' tk p st' kk => ?_
    refine wpAny_mono (step i v _ (by omega) p (hJ _ _ _ _ hj hst kk) st') (fun _ s₂ h₂ => wpAny_mono h₂ (fun f s₃ h₃ => ?_) fun _ _ f => f.elim) fun _ _ f => f.elim
    cases f with
    | next => exact ⟨k, by omega, i + 1, by omega, h₃.1, h₃.2⟩
    | ret v => exact h₃
    | brk => exact h₃.elim
    | cont => exact h₃.elim
end
end Mine
end

section
open PySem PySem.W PySem.Calls PyProof.Rows
set_option maxRecDepth 100000
set_option linter.unusedVariables false
namespace Mine
section
variable {w : World} {A : Around} {E : Value → Shared → Prop} {s : Shared} {Q : Value → Shared → Prop} {env : Env}
theorem enterD {a : Addr} {fd : FuncData} {d : Option Addr} {sl : Array (Option Value)} {body : List Stmt} {args : Args} {binds : List (Str × Value)} {n : Nat}
    (hA : Ar n A) (X : Gl w s.heap) (ho : (K w.params).lookup a = some ⟨.type "function", d, .func fd, sl⟩) (hcd : codeIn (K w.params) fd.code fd.qualname = true)
    (hbody : fd.body = .stmts body) (hbind : BindsTo s fd args binds) (hclo : fd.closure = [])
    (hcell : ∀ x ∈ fd.scope.names, x.2 ≠ .cell) (hloc : ∀ x ∈ binds, fd.scope.names.lookup x.1 = some .local)
    (hco : fd.scope.isCoroutine = false) (hgen : fd.scope.isGenerator = false) (hk : fd.scope.kind = .function)
    (h : ∀ s₁, Fn s (callEnv fd s.heap.objs.size a) (fun x => binds.reverse.lookup x) (fun _ => none) s₁ → Keeps s s₁ →
      wpAny (model prg w) (A.deeper (callEnv fd s.heap.objs.size a)) (execs body (callEnv fd s.heap.objs.size a)) (fun f s' => Q (match f with | .ret v => v | _ => .none) s') (fun _ _ => False) s₁) :
    wpAny (model prg w) A (PySem.call (.ref a) args.pos) Q E s ∨ args.kw ≠ [] := by
  by_cases hkw : args.kw = []
  · left
    obtain ⟨ps, kw⟩ := args
    cases hkw
    refine wpAny_call (codeAny_call_def hA.room (X.k _ _ ho) rfl X.lim (codeRec_of X.k hcd) hbody hbind hcell hloc (fun h₀ hns hk => ?_) hco hgen hk)
    have ks : Keeps s { s with heap := h₀, toks := s.toks + binds.length } := ⟨_, _, rfl, hk⟩
    have ec : (callEnv fd s.heap.objs.size a).cells = [] := hclo
    refine wpAny_mono (h _ ⟨KS.of_keeps ks, hns, Nat.le_refl _, Nat.le_trans (by decide) X.size, fun n c e => ?_, ?_, fun n c e => ?_⟩ ks) (fun _ _ q => q) fun _ _ f => f.elim
    · rw [ec] at e; cases e
    · rw [ec]; exact .nil
    · rw [ec] at e; cases e
  · exact .inr hkw
end
section
variable {w : World} {A : Around} {E : Value → Shared → Prop} {s : Shared} {Q : Value → Shared → Prop} {env : Env}
theorem call_iter {xv : Value} (h : wpAny (model prg w) A.in1 (pyIter xv) Q E s) : wpAny (model prg w) A (PySem.call (.builtin "iter") [xv]) Q E s := by
  refine call_function_entry (by decide +kernel) (by decide +kernel) kdk_entry_iter (kdk_args_iter _) ?_
  unfold Builtin.«iter»
  refine wpAny_bind (m := someArgs "iter" 1 2 _) (wpAny_of_eq (a := [xv]) (by first | rfl | kernel_rfl!) ?_)
  show wpAny _ _ (pyIter xv >>= _) _ _ _
  exact wpAny_bind (wpAny_mono h (fun v s' q => wpAny_pure ⟨_, rfl, q⟩) fun _ _ e => e)
noncomputable def redEnv (s : Shared) (fd : FuncData) : Env := callEnv fd s.heap.objs.size 30
/-- what `reduce` asks of its function: from row to row -/
noncomputable def Turns (w : World) (A : Around) (f : Value) (s : Shared) (n : Nat) (P : Nat → Value → Prop) (rows : Nat → List Int) (off : Nat) : Prop :=
  ∀ i v acc s' (Q' E' : Value → Shared → Prop), off ≤ i → i < n → P i v → KS s s' → TG w s'.heap → LInts s'.heap acc (rows i) →
    (∀ acc' s'', KS s' s'' → LInts s''.heap acc' (rows (i + 1)) → Q' (.ref acc') s'') → wpAny (model prg w) A (PySem.call f [.ref acc, v]) Q' E' s'
noncomputable def redFd (w : World) : FuncData := match (K w.params).lookup 30 with | some ⟨_, _, .func fd, _⟩ => fd | _ => default
theorem fnAt_d {h h' : Heap} {q : Addr} (t : T13 h) (x : FnAt q h) (k : Kd h h') : FnAt q h' := by
  obtain ⟨oc, od, fd, sl, e⟩ := x
  refine ⟨oc, od, fd, sl, k.1 _ _ ?_ e⟩
  rintro rfl
  obtain ⟨ps, e', _⟩ := t
  rw [e] at e'; cases e'
theorem red_loop {f : Addr} {fp : List Addr} {n off : Nat} {P : Nat → Value → Prop} {rows : Nat → List Int} {St : Nat → Heap → Prop} {I acc : Addr} {s₀ : Shared} {B : Around} {m cm : Str → Option Value}
    (hE : env = callEnv (redFd w) s₀.heap.objs.size 30) (X₀ : TG w s₀.heap) (W : Wk w B I fp n P St) (hoff : off ≤ n) (hI : s₀.heap.objs.size ≤ I) (hfp : ∀ b ∈ fp, ∃ vs, s.heap.IsList b vs)
    (ff : FnAt f s₀.heap) (hf : Turns w B (.ref f) s₀ n P rows off) (x : Fn s₀ env m cm s) (hm : m "it" = some (.ref I)) (hmf : m "function" = some (.ref f)) (hmv : m "value" = some (.ref acc)) (ha : LInts s.heap acc (rows off)) (st : St off s.heap)
    {U : Flow → Shared → Prop} (hQ : ∀ acc s', KS s₀ s' → LInts s'.heap acc (rows n) → U (.ret (.ref acc)) s') :
    wpAny (model prg w) B (execs ((bodyAt 3).drop 2) env) U (fun _ _ => False) s := by
  refine wpAny_execs_cons ?_
  refine wpAny_For ?_
  refine x.ld (by rw [hE]; rfl) (by rw [hE]; rfl) hm ?_
  refine W.self off _ _ _ st ?_
  refine for_gen (W.shift off hoff) (fun i s' => ∃ m acc, Fn s₀ env m cm s' ∧ m "function" = some (.ref f) ∧ m "value" = some (.ref acc) ∧ LInts s'.heap acc (rows (i + off)) ∧ ∀ b ∈ fp, ∃ vs, s'.heap.IsList b vs) ?_ ?_ ?_ ?_ ?_
  · rintro i s₁ h' tk ⟨m, acc, x₁, e1, e2, l1, fp1⟩ hst kk
    have ow := W.own _ _ hst
    have ch : Ch I s₁ { s₁ with heap := h', toks := tk } := ⟨_, _, rfl, kk⟩
    have x2 := x₁.it ow hI ch
    refine ⟨m, acc, x2, e1, e2, ?_, fun b hb => ?_⟩
    · obtain ⟨vs, il, r⟩ := l1
      exact ⟨vs, isList_at il fun o e => ch.up _ _ (ow.ne_list il) e, r⟩
    · obtain ⟨vs, il⟩ := fp1 b hb
      exact ⟨vs, isList_at il fun o e => ch.up _ _ (ow.ne_list il) e⟩
  · rintro i v s₁ hi hp ⟨m, acc, x₁, e1, e2, l1, fp1⟩ hst
    refine wpAny_assign_Name ?_
    refine x₁.st (by rw [hE]; rfl) (by rw [hE]; rfl) fun s₂ x₂ c₂ => ?_
    have X₂ := X₀.d x₂.ks.d
    have l2 := lints_ch l1 x₁.ns c₂
    refine wpAny_execs_cons ?_
    refine wpAny_Assign_Name ?_
    refine Call_ (x₂.ld (by rw [hE]; rfl) (by rw [hE]; rfl) e1 ?_)
    have f2 := fnAt_d X₀.2 ff x₂.ks.d
    refine callWith_F f2 (spliced_more (x₂.ld (by rw [hE]; rfl) (by rw [hE]; rfl) e2 ?_))
    refine spliced_more (x₂.ld (by rw [hE]; rfl) (by rw [hE]; rfl) rfl (spliced_none ⟨f2, ?_⟩))
    refine hf (i + off) v acc s₂ _ _ (by omega) (by omega) hp x₂.ks X₂ l2 fun acc' s₃ k₃ l3 => ?_
    have x₃ := x₂.to k₃
    refine x₃.st (by rw [hE]; rfl) (by rw [hE]; rfl) fun s₄ x₄ c₄ => ?_
    refine wpAny_execs_nil ⟨⟨_, acc', x₄, e1, rfl, ?_, fun b hb => ?_⟩, ?_⟩
    · have := lints_ch l3 x₃.ns c₄
      rw [Nat.add_right_comm]; exact this
    · obtain ⟨vs, il⟩ := fp1 b hb
      exact ⟨vs, isList_ch (isList_d X₂.2 (isList_ch il x₁.ns c₂) k₃.d) x₃.ns c₄⟩
    · refine W.frame _ _ _ hst fun b hb o e hd => ?_
      have b1 : NoCode s₁.heap b → b ≠ env.locals := fun _ q => by
        subst q
        obtain ⟨o', es, ep, e', d', _⟩ := x₁.ns
        rw [e] at e'; cases e'
        rcases hd with ⟨vs, hd⟩ | ⟨vs, n, hd⟩ <;> (rw [hd] at d'; cases d')
      have b2 : b ≠ env.locals := by
        rcases hb with rfl | hb
        · exact b1 (W.own _ _ hst).nf
        · obtain ⟨vs, il⟩ := fp1 b hb
          exact b1 (list_nf il)
      have b3 : b ≠ 113 := by
        rcases hb with rfl | hb
        · exact Nat.ne_of_gt (Nat.lt_of_lt_of_le x.hi hI)
        · obtain ⟨vs, il⟩ := fp1 b hb
          exact ne113_list (X₀.d x₁.ks.d).2 il
      exact c₄.up _ _ b2 (k₃.get _ _ b3 (c₂.up _ _ b2 e))
  · rintro s₁ ⟨m, acc, x₁, e1, e2, l1, fp1⟩
    refine wpAny_execs_cons ?_
    refine wpAny_Return_some (x₁.ld (by rw [hE]; rfl) (by rw [hE]; rfl) e2 ?_)
    rw [Nat.sub_add_cancel hoff] at l1
    exact hQ _ _ x₁.ks l1
  · exact ⟨m, acc, x, hmf, hmv, by simpa using ha, hfp⟩
  · simpa using st
theorem reduce_spec {kk : Nat} {f : Addr} {sv : Value} {fp : List Addr} {n : Nat} {P : Nat → Value → Prop} {rows : Nat → List Int} {a0 : Addr} (hA : Ar (kk + 1) A) (X : TG w s.heap)
    (hit : ∀ A' s', Keeps s s' → IterF w A' sv s' fp n P) (hfp : ∀ b ∈ fp, ∃ vs, s.heap.IsList b vs) (ff : FnAt f s.heap)
    (hf : ∀ A' : Around, Ar kk A' → Turns w A' (.ref f) s n P rows 0) (h0 : LInts s.heap a0 (rows 0))
    (hQ : ∀ acc s', KS s s' → LInts s'.heap acc (rows n) → Q (.ref acc) s') :
    wpAny (model prg w) A (PySem.call (.ref 30) [.ref f, sv, .ref a0]) Q E s := by
  refine (enterD (body := bodyAt 3) (args := ⟨[.ref f, sv, .ref a0], []⟩) hA X.1 rfl rfl rfl (binds_K X.1.k rfl rfl rfl rfl rfl) rfl (by decide) (locs rfl) rfl rfl rfl (fun s₁ x₁ k₁ => ?_)).resolve_right (fun q => q rfl)
  have X₁ := X.d x₁.ks.d
  refine wpAny_execs_cons ?_
  refine wpAny_Assign_Name ?_
  refine Call_ (bname X₁.1 (by kernel_rfl) boot_iter (by decide) rfl rfl rfl rfl ?_)
  refine bcall (spliced_more (x₁.ld rfl rfl rfl (spliced_none ?_)))
  refine call_iter (hit _ s₁ k₁ _ _ fun o St W ho st0 => ?_)
  have k2 : Keeps s₁ { s₁ with heap := s₁.heap.push o } := ⟨_, _, rfl, up_push _ _⟩
  have x₂ := x₁.to (KS.of_keeps k2)
  have W' := W (A.deeper (callEnv (redFd w) s.heap.objs.size 30)) (hA.deeper (callEnv (redFd w) s.heap.objs.size 30)).hh
  have hIs : s.heap.objs.size < s₁.heap.objs.size := x₁.ns.lt
  have own := W'.own _ _ st0
  refine x₂.st rfl rfl fun s₃ x₃ c₃ => ?_
  have X₃ := X.d x₃.ks.d
  have l3 : LInts s₃.heap a0 (rows 0) := lints_d X.2 h0 x₃.ks.d
  refine wpAny_execs_cons ?_
  refine wpAny_If (wpAny_isTrue_Compare1 ?_)
  refine x₃.ld rfl rfl rfl ?_
  refine gname (v := .ref 22) X₃.1 (by kernel_rfl) rfl rfl rfl ?_
  obtain ⟨vs3, ⟨ol, el, cl, nl, dl⟩, r3⟩ := id l3
  refine wpAny_is_ref_other ?_ el (X₃.1.k 22 _ rfl) (by rw [cl]; decide) ?_
  · rintro rfl
    rw [X₃.1.k 22 _ rfl] at el; cases el; cases dl
  refine wpAny_truthy_bool ?_
  refine wpAny_execs_cons ?_
  refine wpAny_Assign_Name (x₃.ld rfl rfl rfl ?_)
  refine x₃.st rfl rfl fun s₄ x₄ c₄ => ?_
  refine wpAny_execs_nil ?_
  have iL : s₁.heap.objs.size ≠ s.heap.objs.size := Nat.ne_of_gt hIs
  have fr : ∀ b, b = s₁.heap.objs.size ∨ b ∈ fp → ∀ ob, (s₁.heap.push o).get? b = some ob → s₄.heap.get? b = some ob := by
    intro b hb ob e
    have : b ≠ s.heap.objs.size := by
      rcases hb with rfl | hb
      · exact iL
      · obtain ⟨vs, il⟩ := hfp b hb
        exact Nat.ne_of_lt (isList_lt il)
    exact c₄.up _ _ this (c₃.up _ _ this e)
  refine red_loop (s₀ := s) (off := 0) rfl X W' (Nat.zero_le _) (Nat.le_of_lt hIs) (fun b hb => ?_) ff (hf _ (hA.deeper _)) x₄ (by rfl) (by rfl) (by rfl) (lints_d X.2 h0 x₄.ks.d) ?_ hQ
  · obtain ⟨vs, il⟩ := hfp b hb
    exact ⟨vs, isList_d X.2 il x₄.ks.d⟩
  · exact W'.frame _ _ _ st0 fun b hb ob e _ => fr b hb ob e
theorem call_next_list {it l : Addr} {i : Nat} {items : Array Value} {x : Value} (hit : s.heap.IsListIter it l i) (hl : s.heap.IsList l items) (hx : items[i]? = some x)
    (hQ : ∀ h', h'.IsListIter it l (i + 1) → Heap.SameBut it s.heap h' → Q x { s with heap := h' }) : wpAny (model prg w) A (PySem.call (.builtin "next") [.ref it]) Q E s := by
  obtain ⟨o, ho, hc, hd⟩ := id hit
  obtain ⟨ol, hol, _, nl, hdl⟩ := hl
  refine call_function_entry (by decide +kernel) (by decide +kernel) kdk_entry_next (kdk_args_next _) ?_
  unfold Builtin.«next»
  refine wpAny_bind (m := someArgs "next" 1 2 _) (wpAny_of_eq (a := [Value.ref it]) (by first | rfl | kernel_rfl!) ?_)
  dsimp only
  refine wpAny_bind (wpAny_specialOf (name := Str.ofString "__next__") hit.typeIs slot_listiter_next.lookup ?_)
  refine wpAny_ite_split (fun hab => absurd hab (by decide)) (fun _ => ?_)
  refine wpAny_bind (wpAny_callSpecial?_slot (name := Str.ofString "__next__") hit.typeIs slot_listiter_next
    (wpAny_call_entry slot_listiter_next hit.typeIs entry_listiter_next ?_ (args_listiter_next _)))
  show wpAny _ _ (field (.ref it) 0 >>= _) _ _ s
  refine wpAny_bind (wpAny_field ho hd (x := .ref l) rfl ?_)
  show wpAny _ _ (if (Value.ref l == Value.none) = true then _ else _) _ _ s
  rw [if_neg (show ¬ ((Value.ref l == Value.none) = true) from Bool.false_ne_true)]
  show wpAny _ _ (field (.ref it) 1 >>= _) _ _ s
  refine wpAny_bind (wpAny_field ho hd (x := .int i 0) rfl ?_)
  show wpAny _ _ (seqItems? (.ref l) >>= _) _ _ s
  refine wpAny_bind (wpAny_seqItems hol hdl ?_)
  simp only [Int.toNat_natCast, hx]
  refine wpAny_bind (wpAny_setField ho hd (by simp) (wpAny_pure ⟨x, rfl, wpAny_pure ⟨x, rfl, hQ _ ?_ (Heap.SameBut.update ..)⟩⟩))
  exact ⟨_, Heap.get?_update_self _ ho (Obj.isFreed_of_fields (Obj.data_mapFields hd _)), (Obj.cls_mapFields ..).trans hc, by
    rw [Obj.data_mapFields hd]; simp [rawInt]⟩
theorem reduce0_spec {kk : Nat} {f l : Addr} {vs : List Value} {rows : Nat → List Int} {a0 : Addr} (hA : Ar (kk + 1) A) (X : TG w s.heap)
    (hl : s.heap.IsList l vs.toArray) (ff : FnAt f s.heap)
    (hf : ∀ A' : Around, Ar kk A' → Turns w A' (.ref f) s vs.length (fun i v => vs[i]? = some v) rows 1) (hv : vs[0]? = some (.ref a0)) (h0 : LInts s.heap a0 (rows 1))
    (hQ : ∀ acc s', KS s s' → LInts s'.heap acc (rows vs.length) → Q (.ref acc) s') :
    wpAny (model prg w) A (PySem.call (.ref 30) [.ref f, .ref l]) Q E s := by
  refine (enterD (body := bodyAt 3) (args := ⟨[.ref f, .ref l], []⟩) hA X.1 rfl rfl rfl (binds_K X.1.k rfl rfl rfl rfl rfl) rfl (by decide) (locs rfl) rfl rfl rfl (fun s₁ x₁ k₁ => ?_)).resolve_right (fun q => q rfl)
  have X₁ := X.d x₁.ks.d
  refine wpAny_execs_cons ?_
  refine wpAny_Assign_Name ?_
  refine Call_ (bname X₁.1 (by kernel_rfl) boot_iter (by decide) rfl rfl rfl rfl ?_)
  refine bcall (spliced_more (x₁.ld rfl rfl rfl (spliced_none ?_)))
  have hl₁ := isList_keeps hl (kup k₁)
  refine call_iter (wpAny_pyIter_list hl₁ ?_)
  have hA' : Ar kk (A.deeper (callEnv (redFd w) s.heap.objs.size 30)) := hA.deeper _
  have hIs : s.heap.objs.size < s₁.heap.objs.size := x₁.ns.lt
  have lI : l ≠ s₁.heap.objs.size := Nat.ne_of_lt (isList_lt hl₁)
  have lL : l ≠ s.heap.objs.size := Nat.ne_of_lt (isList_lt hl)
  have iL : s₁.heap.objs.size ≠ s.heap.objs.size := Nat.ne_of_gt hIs
  have W0 := Walks.list (prog := prg) (w := w) hA'.hh s₁.heap.objs.size l lI vs.toArray
  simp only [List.size_toArray, List.getElem?_toArray] at W0
  have W' : Wk w (A.deeper (callEnv (redFd w) s.heap.objs.size 30)) s₁.heap.objs.size [l] vs.length (fun i v => vs[i]? = some v) (fun i h => h.IsListIter s₁.heap.objs.size l i ∧ h.IsList l vs.toArray) := by
    refine Wk.of W0 (by simp) ?_ (fun i h hs => ⟨_, _, hs.1.choose_spec.1, hs.1.choose_spec.2.2, by intro q t; simp⟩)
    rintro i h ⟨⟨o1, e1, c1, d1⟩, ⟨o2, e2, c2, n2, d2⟩⟩ b hb o e
    simp only [List.mem_cons, List.not_mem_nil, or_false] at hb
    rcases hb with rfl | rfl
    · rw [e1] at e; cases e; exact .inl ⟨_, d1⟩
    · rw [e2] at e; cases e; exact .inr ⟨_, _, d2⟩
  generalize ho : ({ cls := Value.type "list_iterator", data := Data.fields #[Value.ref l, Value.int 0 0] } : Obj) = o
  have k2 : Keeps s₁ { s₁ with heap := s₁.heap.push o } := ⟨_, _, rfl, up_push _ _⟩
  have it0 : (s₁.heap.push o).IsListIter s₁.heap.objs.size l 0 := ⟨o, Heap.get?_push_size _ (by rw [← ho]; rfl), by rw [← ho], by rw [← ho]; rfl⟩
  have x₂ := x₁.to (KS.of_keeps k2)
  refine x₂.st rfl rfl fun s₃ x₃ c₃ => ?_
  have X₃ := X.d x₃.ks.d
  have it3 : s₃.heap.IsListIter s₁.heap.objs.size l 0 := by
    obtain ⟨o', e, r⟩ := it0
    exact ⟨o', c₃.up _ _ iL e, r⟩
  have l3 : s₃.heap.IsList l vs.toArray := isList_d X.2 hl x₃.ks.d
  refine wpAny_execs_cons ?_
  refine wpAny_If (wpAny_isTrue_Compare1 ?_)
  refine x₃.ld rfl rfl rfl ?_
  refine gname (v := .ref 22) X₃.1 (by kernel_rfl) rfl rfl rfl ?_
  refine wpAny_is_ref_self ?_
  refine wpAny_truthy_bool ?_
  refine wpAny_execs_cons ?_
  refine wpAny_Try_except ?_
  refine wpAny_execs_cons ?_
  refine wpAny_Assign_Name ?_
  refine Call_ (bname X₃.1 (by kernel_rfl) boot_next (by decide) rfl rfl rfl rfl ?_)
  refine bcall (spliced_more (x₃.ld rfl rfl rfl (spliced_none ?_)))
  refine call_next_list it3 l3 (x := .ref a0) (by simpa using hv) fun h' it4 sb => ?_
  have fld : Fields s₃.heap s₁.heap.objs.size := ⟨_, _, it3.choose_spec.1, it3.choose_spec.2.2, by intro q t; simp⟩
  have c4 : Ch s₁.heap.objs.size s₃ { s₃ with heap := h' } := ⟨h', s₃.toks, rfl, fun b o hb e => (sb.2 b hb).trans e⟩
  have x₄ := x₃.it fld (Nat.le_of_lt hIs) c4
  refine x₄.st rfl rfl fun s₅ x₅ c₅ => ?_
  refine wpAny_execs_nil ?_
  refine wpAny_execs_nil ?_
  refine wpAny_execs_nil ?_
  have hlen : 1 ≤ vs.length := by
    cases vs with
    | nil => simp at hv
    | cons _ _ => simp
  refine red_loop (s₀ := s) (off := 1) (acc := a0) rfl X W' hlen (Nat.le_of_lt hIs) (fun b hb => ?_) ff (hf _ hA') x₅ (by rfl) (by rfl) (by rfl) (lints_d X.2 h0 x₅.ks.d) ?_ hQ
  · simp only [List.mem_cons, List.not_mem_nil, or_false] at hb
    subst hb
    exact ⟨_, isList_d X.2 hl x₅.ks.d⟩
  · refine ⟨?_, isList_d X.2 hl x₅.ks.d⟩
    obtain ⟨o', e, r⟩ := it4
    exact ⟨o', c₅.up _ _ iL e, r⟩
end
end Mine
end

section
open PySem PySem.W PySem.Calls PyProof.Rows
set_option maxRecDepth 100000
set_option linter.unusedVariables false
namespace Mine
/-- one row through another -/
noncomputable def jn (a b : List Int) : List Int := b.map fun j => a.getD j.toNat 0
theorem ints_jn {va : List Value} {na : List Int} (h : IntsAre va na) : ∀ {nb : List Int}, (∀ x ∈ nb, 0 ≤ x ∧ x < na.length) → IntsAre (nb.map fun i => va.getD i.toNat .none) (jn na nb)
  | [], _ => .nil
  | i :: r, hb => by
    obtain ⟨h0, h1⟩ := hb i (.head _)
    obtain ⟨t, e⟩ := ints_getD h (k := i.toNat) (by omega)
    show IntsAre (va.getD i.toNat .none :: r.map _) (na.getD i.toNat 0 :: jn na r)
    rw [e]
    exact .cons _ _ (ints_jn h fun x hx => hb x (.tail _ hx))
section
variable {w : World} {A : Around} {E : Value → Shared → Prop} {s : Shared} {Q : Value → Shared → Prop} {env : Env}
theorem joined_ints {a b : Addr} {na nb : List Int} (hA : Ar 4 A) (X : Gl w s.heap) (ha : LInts s.heap a na) (hb : LInts s.heap b nb)
    (pb : ∀ x ∈ nb, 0 ≤ x ∧ x < na.length) (hl : na.length ≤ 100) (hn : nb.length ≤ 100)
    (hQ : ∀ D s', s.heap.get? D = none → Keeps s s' → LInts s'.heap D (jn na nb) → Q (.ref D) s') :
    wpAny (model prg w) A (PySem.call (.ref 111) [.ref a, .ref b]) Q E s := by
  obtain ⟨va, la, ia⟩ := ha
  obtain ⟨vb, lb, ib⟩ := hb
  have e := ia.length
  refine joined_spec hA X la lb ib (fun x hx => by rw [e]; exact pb x hx) (by rw [e]; exact hl) hn fun D s' hD k l => hQ D s' hD k ⟨_, l, ints_jn ia pb⟩
noncomputable def lamP : Arguments := match bodyAt 13 with | [_, _, .Return (some (.Call _ (.Lambda p _ _ _ :: _) _ _)) _] => p | _ => default
noncomputable def lamB : PySem.Expr := match bodyAt 13 with | [_, _, .Return (some (.Call _ (.Lambda _ b _ _ :: _) _ _)) _] => b | _ => default
noncomputable def lamS : Scope := match bodyAt 13 with | [_, _, .Return (some (.Call _ (.Lambda _ _ sc _ :: _) _ _)) _] => sc | _ => default
noncomputable abbrev lamO (c c' : Addr) (pm ctv : Value) : Obj := kla_obj "<lambda>" q13 lamP lamB lamS [(Str.ofString "moves", c)] pm c' ctv
theorem hd13 {h : Heap} (X : Gl w h) : CodeHd h 117 113 :=
  ⟨_, _, _, _, _, _, _, _, _, X.k 117 _ rfl, rfl, rfl, rfl, rfl, rfl, rfl, rfl, rfl, by decide⟩
theorem bat {h : Heap} {mg : Str → Option Value} (X : Gl w h) (y : h.Ns mainGlobals mg) (P : Addr) (hP : 4 ≠ P) : h.BuiltinsAt mg P := by
  obtain ⟨ob, e, r⟩ := X.bm
  exact ⟨4, ob, mg_of X.k y (by kernel_rfl), by decide, by decide, hP, e, r⟩
/-- the lambda of `_law_deed` is made -/
theorem lam_made {c : Addr} (X : TG w s.heap) (hq : env.qual ++ "<lambda>" = q13) (hcode : env.code = .ref 117) (hg : env.globals = mainGlobals) (hcl : closureFor lamS env = pure [(Str.ofString "moves", c)])
    (hQ : ∀ f c' pm ctv s', KS s s' → s.heap.objs.size ≤ f → s'.heap.get? f = some (lamO c c' pm ctv) → c' ≠ 113 → s'.heap.CodeRec (.ref c') q13 → Q (.ref f) s') :
    wpAny (model prg w) A (eval (.Lambda lamP lamB lamS p13) env) Q E s := by
  refine kla_eval rfl ?_
  rw [hq]
  obtain ⟨mg, y⟩ := X.1.g
  obtain ⟨ps, hP, ht, hr⟩ := X.2
  rcases hr with hr | ⟨c', hr, hne, hrec⟩
  · refine kla_makeFunction hcl hg y hcode (hd13 X.1) hP ht hr (by decide) (bat X.1 y _ (by decide)) fun c' ctv h' tk hx hge hlt hrec htb => ?_
    have sz : 113 < s.heap.objs.size := Heap.lt_size hP
    refine hQ _ c' _ ctv _ ⟨_, _, rfl, fun b o hb e => Heap.get?_push_of_some _ (hx b o hb e), fun _ => ?_⟩ ?_ (Heap.get?_push_size _ rfl) (Nat.ne_of_gt (Nat.lt_of_lt_of_le sz hge)) (hrec.push _)
    · refine ⟨_, Heap.get?_push_of_some _ htb, ?_, .inr ⟨c', ?_, Nat.ne_of_gt (Nat.lt_of_lt_of_le sz hge), hrec.push _⟩⟩
      · rw [Array.toList_append]
        exact TriplesOk_snoc _ _ _ _ ht
      · rw [Array.toList_append]
        exact codeAmong_snoc _ ht hr
    · exact Nat.le_trans hge (Nat.le_of_lt hlt)
  · refine kla_makeFunctionHit hcl hg y hcode (hd13 X.1) hP ht hr (bat X.1 y _ (by decide)) fun ctv h' tk hk hsz => ?_
    have up : Up s.heap (h'.push (lamO c c' ((mg "__name__").getD .none) ctv)) := fun b o e => Heap.get?_push_of_some _ (hk b o e)
    exact hQ _ c' _ ctv _ ⟨_, _, rfl, Kd.of_up up⟩ hsz (Heap.get?_push_size _ rfl) hne (hrec.keeps up)
theorem mv_ok (c : Nat) : (mv c).length = 5 ∧ ∀ x ∈ mv c, 0 ≤ x ∧ x < 5 := by
  unfold mv
  repeat' split
  all_goals decide
theorem lam_call {f c c' d acc : Addr} {pm ctv : Value} {row : List Int} {ch : Nat} {t : Tok} (hA : Ar 5 A) (X : Gl w s.heap) (hf : s.heap.get? f = some (lamO c c' pm ctv)) (hr : s.heap.CodeRec (.ref c') q13)
    (hc : s.heap.IsCell c (some (.ref d))) (hM : Moves w s.heap d) (ha : LInts s.heap acc row) (h5 : row.length = 5) (hch : ch ∈ letters5)
    (hQ : ∀ D s', Keeps s s' → LInts s'.heap D (jn row (mv ch)) → Q (.ref D) s') :
    wpAny (model prg w) A (PySem.call (.ref f) [.ref acc, .str ⟨#[ch]⟩ t]) Q E s := by
  refine wpAny_call ?_
  refine kla_callFunE (body := lamB) hA.room hf rfl rfl rfl rfl hr ?_
  refine wpAny_of_eq (a := [(Str.ofString "so_far", Value.ref acc), (Str.ofString "letter", Value.str ⟨#[ch]⟩ t)]) (by rfl) ?_
  refine wpAny_newFunctionEnv (by show ∀ x ∈ lamS.names, x.2 ≠ .cell; decide) (locs rfl) (fun h₁ hns hsb => ⟨X.lim.fresh _ hsb, ?_⟩) rfl
  have up : Up s.heap h₁ := fun b o e => hsb.extBut b o (Nat.ne_of_lt (Heap.lt_size e)) (Heap.get?_push_of_some _ e)
  refine kla_codeExpr (wpAny_mono (E := fun _ _ => False) (Q := fun v s' => Q v s') ?_ (fun v s' q => q) fun _ _ x => x.elim)
  have X₁ := X.keeps up
  refine Call_ (gname (v := .ref 111) (X₁ : Gl w ({ s with heap := h₁, toks := s.toks + 2 } : Shared).heap) (by kernel_rfl) rfl rfl rfl ?_)
  refine callWith_K (K := K w.params) X₁.k (by kernel_rfl) ?_
  refine spliced_more (wpAny_Name (wpAny_loadName_local rfl rfl hns rfl ?_))
  refine spliced_more ?_
  refine Subscript_ (wpAny_Name (wpAny_loadName_free (c := c) rfl rfl rfl (hc.keeps up) ?_))
  refine wpAny_Name (wpAny_loadName_local rfl rfl hns rfl ?_)
  obtain ⟨kvs, dk, fs⟩ := hM.up up
  obtain ⟨a, ea, la⟩ := fs ch hch
  have hm := dk.mapOf
  refine tail_any hm.typeIs slot_dict_getitem.lookup (wpAny_getItem_of (strKind_is _ _ _ _) hm ea ?_) (by with_unfolding_all rfl)
  refine spliced_none ⟨X₁.k, ?_⟩
  refine joined_ints (hA.deeper _) X₁ (ha.up up) la (fun x hx => by rw [h5]; exact (mv_ok ch).2 x hx) (by omega) (by rw [(mv_ok ch).1]; decide) fun D s' hD k l => ?_
  exact hQ D s' (keeps_of ⟨_, _, rfl, up⟩ k) l
end
end Mine
end

section
open PySem PySem.W PySem.Calls PyProof.Rows
set_option maxRecDepth 100000
set_option linter.unusedVariables false
namespace Mine
noncomputable def lett (c : Nat) : List Nat :=
  if c = 102 then [102] else if c = 70 then [102] else if c = 64256 then [102, 102] else if c = 64257 then [102, 105] else if c = 64258 then [102, 108] else if c = 64259 then [102, 102, 105]
  else if c = 64260 then [102, 102, 108] else if c = 64261 then [115, 116] else if c = 223 then [115, 115] else if c = 115 then [115] else if c = 383 then [115] else if c = 84 then [116] else if c = 119868 then [105] else []
noncomputable def codesN : List Nat := [102, 70, 64256, 64257, 64258, 64259, 64260, 64261, 223, 115, 383, 84, 119868, 173]
noncomputable def step1 (r : List Int) (ch : Nat) : List Int := jn r (mv ch)
noncomputable def deedR (row : List Int) (c : Nat) : List Int := (lett c).foldl step1 row
noncomputable def b3fnd (c : Nat) : Option Value := (b3ents.find? fun e => Value.isInt (c : Int) e.key).map (·.val)
theorem b3get_eq (c : Nat) : b3get c = b3fnd c := by unfold b3get findBy b3fnd; rw [List.find?_toArray]
noncomputable def b3ok (c : Nat) : Bool := match b3fnd c with
  | some (.str x _) => x == (⟨(lett c).toArray⟩ : Str)
  | none => Txt.lower ⟨#[c]⟩ == (⟨(lett c).toArray⟩ : Str)
  | _ => false
theorem b3ok_all : codesN.all (fun c => b1nums.contains (c : Int) || b3ok c) = true := by decide +kernel
theorem lett_ok : codesN.all (fun c => (lett c).length ≤ 3 && (lett c).all fun x => letters5.contains x) = true := by decide +kernel
theorem b1_173 : codesN.all (fun c => b1nums.contains (c : Int) == (c == 173)) = true := by decide +kernel
theorem b3fact {c : Nat} (h : b3ok c = true) (hl : (lett c).length ≤ 3) : (∃ u, b3get c = some (.str ⟨(lett c).toArray⟩ u)) ∨ (b3get c = none ∧ Txt.lower ⟨#[c]⟩ = ⟨(lett c).toArray⟩ ∧ PySem.Builtin.Str.tooLong (⟨(lett c).toArray⟩ : Str).length = false) := by
  rw [b3get_eq]
  unfold b3ok at h
  split at h
  · rename_i x u e
    have h := eq_of_beq h
    subst h
    exact .inl ⟨u, e⟩
  · rename_i e
    refine .inr ⟨e, eq_of_beq h, ?_⟩
    unfold PySem.Builtin.Str.tooLong
    rw [decide_eq_false]
    have : (⟨(lett c).toArray⟩ : Str).length = (lett c).length := by show (lett c).toArray.size = _; simp
    rw [this, sizeLine_eq]; omega
  · cases h
theorem jn_len (a b : List Int) : (jn a b).length = b.length := by simp [jn]
theorem step1_len {r : List Int} {ch : Nat} : (step1 r ch).length = 5 := by rw [step1, jn_len, (mv_ok ch).1]
theorem fold_len {r : List Int} (h : r.length = 5) (l : List Nat) : (l.foldl step1 r).length = 5 := by
  induction l generalizing r with
  | nil => exact h
  | cons c l ih => exact ih step1_len
theorem fold_take {r : List Int} (l : List Nat) {i ch : Nat} (h : l[i]? = some ch) : (l.take (i + 1)).foldl step1 r = step1 ((l.take i).foldl step1 r) ch := by
  rw [List.take_add_one, h, List.foldl_append]; rfl
section
variable {w : World} {A : Around} {E : Value → Shared → Prop} {s : Shared} {Q : Value → Shared → Prop} {env : Env}
theorem fnAt_K {a : Addr} {oc : Value} {od : Option Addr} {fd : FuncData} {sl : Array (Option Value)} (X : Gl w s.heap) (e : (K w.params).lookup a = some ⟨oc, od, .func fd, sl⟩) : FnAt a s.heap := ⟨_, _, _, _, X.k _ _ e⟩
theorem Moves.but {h h' : Heap} {d : Addr} (x : Moves w h d) (k : ∀ b o, h.get? b = some o → (∃ es ep, o.data = .dict es ep) ∨ (∃ vs n, o.data = .seq vs n) → h'.get? b = some o) : Moves w h' d := by
  obtain ⟨kvs, ⟨o, es, ep, e, hc, hdat, r⟩, f⟩ := x
  refine ⟨kvs, ⟨o, es, ep, k _ _ e (.inl ⟨_, _, hdat⟩), hc, hdat, r⟩, fun c hc => ?_⟩
  obtain ⟨a, ea, vs, ⟨ol, el, cl, nl, dl⟩, i⟩ := f c hc
  exact ⟨a, ea, vs, ⟨ol, k _ _ el (.inr ⟨_, _, dl⟩), cl, nl, dl⟩, i⟩
theorem Moves.d {h h' : Heap} {d : Addr} (t : T13 h) (x : Moves w h d) (k : Kd h h') : Moves w h' d := by
  refine x.but fun b o e hd => k.1 b o ?_ e
  rintro rfl
  obtain ⟨ps, e', _⟩ := t
  rw [e] at e'; cases e'
  rcases hd with ⟨_, _, hd⟩ | ⟨_, _, hd⟩ <;> cases hd
theorem Moves.cell {s s' : Shared} {d c : Addr} {v : Option Value} (x : Moves w s.heap d) (y : s.heap.IsCell c v) (ch : Ch c s s') : Moves w s'.heap d := by
  refine x.but fun b o e hd => ch.up b o ?_ e
  rintro rfl
  obtain ⟨oc, e', dc⟩ := y
  rw [e] at e'; cases e'
  rcases hd with ⟨_, _, hd⟩ | ⟨_, _, hd⟩ <;> (rw [hd] at dc; cases dc)
theorem deed_spec {a : Addr} {row : List Int} {c : Nat} {t : Tok} (hA : Ar 9 A) (X : TG w s.heap) (ha : LInts s.heap a row) (h5 : row.length = 5) (hc : c ∈ codesN)
    (hQ : ∀ D s', KS s s' → LInts s'.heap D (deedR row c) → Q (.ref D) s') :
    wpAny (model prg w) A (PySem.call (.ref 118) [.ref a, .str ⟨#[c]⟩ t]) Q E s := by
  refine enter (body := bodyAt 13) hA X.1 rfl rfl rfl rfl rfl rfl rfl rfl rfl (fun s₁ y₁ => ?_)
  have k₁ : Keeps s s₁ := y₁.done
  have x₁ := Fn.of y₁ (Nat.le_trans (by decide) X.1.size)
  have X₁ := X.d x₁.ks.d
  refine wpAny_execs_cons ?_
  refine wpAny_If ?_
  refine wpAny_isTrue_value ?_ (by rfl)
  refine Call_ (gname (v := .ref 48) X₁.1 (by kernel_rfl) rfl rfl rfl ?_)
  refine callWith_K (K := K w.params) X₁.1.k (by kernel_rfl) ?_
  refine spliced_more (x₁.ld rfl rfl rfl (spliced_none ⟨X₁.1.k, ?_⟩))
  refine b1_spec ((hA.deeper _).le (by decide)) X₁.1 fun s₂ k₂ => wpAny_truthy_bool ?_
  have x₂ := x₁.to (KS.of_keeps k₂)
  have X₂ := X.d x₂.ks.d
  have e1 := eq_of_beq (List.all_eq_true.mp b1_173 c hc)
  by_cases h173 : c = 173
  · rw [e1, show (c == 173) = true by simpa using h173]
    refine wpAny_execs_cons ?_
    refine wpAny_Return_some (x₂.ld rfl rfl rfl ?_)
    refine hQ _ _ x₂.ks ?_
    have : deedR row c = row := by rw [h173]; rfl
    rw [this]
    exact lints_d X.2 ha x₂.ks.d
  · have e2 : (c == 173) = false := by simpa using h173
    have e3 := List.all_eq_true.mp b3ok_all c hc
    rw [e1, e2, Bool.false_or] at e3
    rw [e1, e2]
    have lo := List.all_eq_true.mp lett_ok c hc
    rw [Bool.and_eq_true, decide_eq_true_eq] at lo
    refine wpAny_execs_nil ?_
    refine wpAny_execs_cons ?_
    refine wpAny_Assign_Name ?_
    refine Call_ (gname (v := .ref 106) X₂.1 (by kernel_rfl) rfl rfl rfl ?_)
    refine callWith_K0 (K := K w.params) X₂.1.k (by kernel_rfl) ?_
    refine moves_spec ((hA.deeper _).le (by decide)) X₂.1 fun d s₃ hd k₃ M₃ => ?_
    have x₃ := x₂.to (KS.of_keeps k₃)
    refine x₃.stc rfl rfl rfl fun s₄ x₄ c₄ => ?_
    have M₄ : Moves w s₄.heap d := M₃.cell (x₃.cell (Str.ofString "moves") _ rfl) c₄
    have X₄ := X.d x₄.ks.d
    refine wpAny_execs_cons ?_
    refine wpAny_Return_some ?_
    refine Call_ (gname (v := .ref 30) X₄.1 (by kernel_rfl) rfl rfl rfl ?_)
    refine callWith_K (K := K w.params) X₄.1.k (by kernel_rfl) ?_
    refine spliced_more ?_
    refine lam_made (c := s.heap.objs.size + 1) X₄ rfl rfl rfl rfl fun f c' pm ctv s₅ k₅ hf hfo hcn hcr => ?_
    have x₅ := x₄.to k₅
    have X₅ := X.d x₅.ks.d
    refine spliced_more ?_
    refine Call_ (gname (v := .ref 94) X₅.1 (by kernel_rfl) rfl rfl rfl ?_)
    refine callWith_K (K := K w.params) X₅.1.k (by kernel_rfl) ?_
    refine spliced_more (x₅.ld rfl rfl rfl (spliced_none ⟨X₅.1.k, ?_⟩))
    refine b3_spec ((hA.deeper _).le (by decide)) X₅.1 (b3fact e3 lo.1) fun s₆ t₆ k₆ => ?_
    have x₆ := x₅.to (KS.of_keeps k₆)
    have X₆ := X.d x₆.ks.d
    refine spliced_more (x₆.ld rfl rfl rfl (spliced_none ⟨X₆.1.k, ?_⟩))
    have M₆ : Moves w s₆.heap d := (M₄.d X₄.2 k₅.d).up (kup k₆)
    have f6 := (kup k₆) _ _ hfo
    have r6 := hcr.keeps (kup k₆)
    have c6 : s₆.heap.IsCell (s.heap.objs.size + 1) (some (.ref d)) := x₆.cell (Str.ofString "moves") _ rfl
    refine reduce_spec (kk := 5) (rows := fun i => ((lett c).take i).foldl step1 row) ((hA.deeper _).le (by decide)) X₆ (fun A' s' k => iterF_str) (by simp) ⟨_, _, _, _, (kup k₆) _ _ hfo⟩ ?_ (lints_d X.2 ha x₆.ks.d) ?_
    · intro A' hA' i v acc s' Q' E' _ hi hp ks X' la hk'
      obtain ⟨ch, u, ech, rfl⟩ := hp
      have ech : (lett c)[i]? = some ch := by simpa using ech
      have hin : ch ∈ letters5 := by
        have := List.all_eq_true.mp lo.2 ch (List.mem_of_getElem? ech)
        simpa using this
      have f7 : s'.heap.get? f = some (lamO (s.heap.objs.size + 1) c' pm ctv) := ks.get _ _ (Nat.ne_of_gt (Nat.lt_of_lt_of_le (Nat.lt_of_lt_of_le (by decide) X₄.1.size) hf)) f6
      have r7 : s'.heap.CodeRec (.ref c') q13 := by
        obtain ⟨c2, o, vs, t, e1, e2, r⟩ := r6
        cases e1
        exact ⟨_, o, vs, t, rfl, ks.get _ _ hcn e2, r⟩
      refine lam_call hA' X'.1 f7 r7 (cell_at c6 fun o e => ks.get _ _ (Nat.ne_of_gt (Nat.lt_of_lt_of_le (Nat.lt_of_lt_of_le (by decide) X.1.size) (Nat.le_succ _))) e) (M₆.d X₆.2 ks.d) la (fold_len h5 _) hin fun D s'' k l => ?_
      refine hk' D s'' (KS.of_keeps k) ?_
      show LInts _ _ (((lett c).take (i + 1)).foldl step1 row)
      rw [fold_take _ ech]
      exact l
    · intro acc s' k l
      refine hQ acc s' (x₆.ks.trans k) ?_
      have : ((lett c).take (⟨(lett c).toArray⟩ : Str).cps.size).foldl step1 row = deedR row c := by
        show ((lett c).take (lett c).toArray.size).foldl step1 row = _
        rw [List.size_toArray, List.take_length]; rfl
      rw [← this]
      exact l
end
end Mine
end

section
open PySem PySem.W PySem.Calls PyProof.Rows
set_option maxRecDepth 100000
set_option linter.unusedVariables false
namespace Mine
section
variable {w : World} {A : Around} {E : Value → Shared → Prop} {s s₁ : Shared} {env : Env}
/-- a comprehension whose elements may change the heap: `J` tells what holds between the turns, of the objects old and new but the comprehension's own three -/
theorem comp_inv {elt iter : PySem.Expr} {x : Str} {px : Pos} {scope : Scope} {cl : List (Str × Addr)} {pos : Pos} {Q : Value → Shared → Prop} {xv : Value} {n : Nat} {fp : List Addr} {P : Nat → Value → Prop} (J : Nat → List Value → Shared → Prop)
    (hclos : closureFor scope env = pure cl) (hcell : ∀ y ∈ scope.names, y.2 ≠ .cell) (hkind : scope.kind = .function)
    (hnames : ∀ y ∈ scope.names, y.2 = .local → scope.names.lookup y.1 = some .local) (hx : scope.names.lookup x = some .local)
    (hh : A.handled = none) (hn : n ≤ 1000)
    (hev : ∀ Q' : Value → Shared → Prop, Q' xv s₁ → wpAny (model prg w) A (eval iter env) Q' E s) (hit : IterF w A xv s₁ fp n P) (hfp : ∀ b ∈ fp, b < s₁.heap.objs.size)
    (h0 : ∀ s', Keeps s₁ s' → J 0 [] s')
    (hJ : ∀ i ys a s s', J i ys s → s₁.heap.objs.size ≤ a → a < s₁.heap.objs.size + 3 → NoCode s.heap a → Ch a s s' → J i ys s')
    (helt : ∀ i v ys s₃ m₃ (Q' E' : Value → Shared → Prop), i < n → P i v → ys.length = i → s₁.heap.objs.size + 3 ≤ s₃.heap.objs.size → s₃.heap.Ns (s₁.heap.objs.size + 2) m₃ → m₃ x = some v → s₃.heap.IsList (s₁.heap.objs.size + 1) ys.toArray → Fields s₃.heap s₁.heap.objs.size → J i ys s₃ →
      (∀ y s₄, J (i + 1) (ys ++ [y]) s₄ → (∀ b o, b ∈ fp ∨ (s₁.heap.objs.size ≤ b ∧ b < s₁.heap.objs.size + 3) → s₃.heap.get? b = some o → s₄.heap.get? b = some o) → Q' y s₄) →
      wpAny (model prg w) A (eval elt (compEnvC scope cl (s₁.heap.objs.size + 2) env)) Q' E' s₃)
    (hQ : ∀ s' (ys : List Value), s'.heap.IsList (s₁.heap.objs.size + 1) ys.toArray → ys.length = n → J n ys s' → Q (.ref (s₁.heap.objs.size + 1)) s')
    (hs : ∀ x, foldedSetIterable iter env x = pure x := by intro _; rfl) :
    wpAny (model prg w) A (eval (.ListComp elt [⟨.Name x px, iter, [], 0⟩] scope pos) env) Q E s := by
  rw [eval_ListComp]
  refine wpAny_comprehension_free (use := none) rfl hs hclos hkind hnames (hev _ (hit _ _ fun o St W ho st0 => ?_))
  have W := W A hh
  refine wpAny_newObj_type (wpAny_newFunctionEnv hcell (by intro y hy; simp at hy) (fun h₁ hns₁ hsb₁ => ?_) hkind)
  dsimp only at hns₁ hsb₁ ⊢
  generalize hI : s₁.heap.objs.size = I at *
  generalize hH1 : s₁.heap.push o = H1 at *
  generalize hD : H1.objs.size = D at *
  generalize hH2 : H1.push { cls := .type "list", dict := none, data := .seq ([] : List Value).toArray } = H2 at hns₁ hsb₁ ⊢
  generalize hC : H2.objs.size = C at *
  have dI : D = I + 1 := by rw [← hD, ← hH1, Heap.size_push, hI]
  have dC : C = I + 2 := by rw [← hC, ← hH2, Heap.size_push, hD, dI]
  have old : ∀ b o, H1.get? b = some o → h₁.get? b = some o := fun b o e => by
    have l := Heap.lt_size e
    rw [hD, dI] at l
    exact hsb₁.extBut b o (by rw [dC]; exact Nat.ne_of_lt (Nat.lt_succ_of_lt l)) (Heap.get?_push_of_some _ (hH2 ▸ Heap.get?_push_of_some _ e))
  have hacc : h₁.IsList D #[] := ⟨_, hsb₁.extBut _ _ (by rw [dC, dI]; exact Nat.ne_of_lt (Nat.lt_succ_self _)) (Heap.get?_push_of_some _ (hH2 ▸ hD ▸ Heap.get?_push_size _ rfl)), rfl, _, rfl⟩
  have base : Keeps s₁ { s₁ with heap := h₁, toks := s₁.toks } := ⟨_, _, rfl, fun b ob e => old b ob (hH1 ▸ Heap.get?_push_of_some _ e)⟩
  subst dI dC
  have hz1 : I + 3 ≤ h₁.objs.size := Nat.succ_le_of_lt hns₁.lt
  have nIC : I ≠ I + 2 := Nat.ne_of_lt (Nat.lt_succ_of_lt (Nat.lt_succ_self _))
  have nDC : I + 1 ≠ I + 2 := Nat.ne_of_lt (Nat.lt_succ_self _)
  have nDI : I + 1 ≠ I := Nat.succ_ne_self _
  have hsI : ∀ i h h' (a : Nat), St i h → a = I + 1 ∨ a = I + 2 → (∀ b o, b ≠ a → h.get? b = some o → h'.get? b = some o) → St i h' := fun i h h' a st ha k => W.frame _ _ _ st fun b hb o e _ => k b o (by
    rcases hb with rfl | hb
    · rcases ha with rfl | rfl
      · exact nDI.symm
      · exact nIC
    · have l : b < I := hfp b hb
      rcases ha with rfl | rfl
      · exact Nat.ne_of_lt (Nat.lt_succ_of_lt l)
      · exact Nat.ne_of_lt (Nat.lt_succ_of_lt (Nat.lt_succ_of_lt l))) e
  have st1 : St 0 h₁ := W.frame _ _ _ st0 fun b hb o e _ => old b o e
  have loop : codeAny (model prg w) A (Code.compLoop (.ListComp elt [⟨.Name x px, iter, [], 0⟩] scope pos) 0 (.ref I) (.ref (I + 1)) (compEnvC scope cl (I + 2) env)) (compPost (model prg w) A E none Q (.ref (I + 1)) (I + 2)) { s₁ with heap := h₁, toks := s₁.toks } := by
    refine codeAny_compLoop_list (fun k s' => ∃ i ys m, i + k = n ∧ ys.length = i ∧ J i ys s' ∧ St i s'.heap ∧ s'.heap.IsList (I + 1) ys.toArray ∧ s'.heap.Ns (I + 2) m) ?_ n ⟨0, [], _, by omega, rfl, h0 _ base, st1, hacc, hns₁⟩
    rintro k s₂ ⟨i, ys, m, hk, hl, hj, hst, il, hm⟩
    cases k with
    | zero =>
      obtain rfl : i = n := by omega
      refine W.done _ _ _ hst fun h' tk kk => ?_
      have c1 : Ch I s₂ { s₂ with heap := h', toks := tk } := ⟨_, _, rfl, kk⟩
      refine ⟨m, ns_at hm fun o e => kk _ _ nIC.symm e, fun h'' hs'' => ?_⟩
      have c2 : Ch (I + 2) ({ s₂ with heap := h', toks := tk } : Shared) { s₂ with heap := h'', toks := tk } := ⟨_, _, rfl, fun b o hb e => (hs''.2 b hb).trans e⟩
      refine hQ _ ys (isList_at il fun o e => c2.up _ _ nDC (c1.up _ _ nDI e)) hl (hJ _ _ _ _ _ (hJ _ _ _ _ _ hj (Nat.le_refl _) (by omega) (W.own _ _ hst).nf c1) (by omega) (by omega) (ns_nf (ns_at hm fun o e => kk _ _ nIC.symm e)) c2)
    | succ k =>
      refine W.item i _ _ _ (by omega) hst fun v h' tk p st' kk => ?_
      have c1 : Ch I s₂ { s₂ with heap := h', toks := tk } := ⟨_, _, rfl, kk⟩
      have j1 := hJ _ _ _ _ _ hj (Nat.le_refl _) (by omega) (W.own _ _ hst).nf c1
      have m1 : h'.Ns (I + 2) m := ns_at hm fun o e => kk _ _ nIC.symm e
      have l1 : h'.IsList (I + 1) ys.toArray := isList_at il fun o e => kk _ _ nDI e
      refine wpAny_assign_Name ?_
      refine wpAny_storeName_local (m := m) (lookup_relabel_local hx) m1 (fun h2 hn2 hs2 => ?_) (by rw [show (compEnvC scope cl (I + 2) env).scope.kind = .function from hkind]; rfl)
      have c2 : Ch (I + 2) ({ s₂ with heap := h', toks := tk } : Shared) { s₂ with heap := h2, toks := tk + 1 } := ⟨_, _, rfl, fun b o hb e => (hs2.2 b hb).trans e⟩
      have j2 := hJ _ _ _ _ _ j1 (by omega) (by omega) (ns_nf m1) c2
      have l2 : h2.IsList (I + 1) ys.toArray := isList_at l1 fun o e => c2.up _ _ nDC e
      have st2 : St (i + 1) h2 := hsI _ _ _ _ st' (.inr rfl) fun b o hb e => (hs2.2 b hb).trans e
      refine helt i v ys _ _ _ _ (by omega) p hl (Nat.succ_le_of_lt hn2.lt) hn2 (by simp) l2 (W.own _ _ st2) j2 fun y s₄ j4 k4 => ?_
      have l4 : s₄.heap.IsList (I + 1) ys.toArray := isList_at l2 fun o e => k4 _ _ (.inr ⟨Nat.le_succ _, Nat.add_lt_add_left (by decide) _⟩) e
      have m4 : s₄.heap.Ns (I + 2) _ := ns_at hn2 fun o e => k4 _ _ (.inr ⟨Nat.le_add_right .., Nat.add_lt_add_left (by decide) _⟩) e
      have st4 : St (i + 1) s₄.heap := W.frame _ _ _ st2 fun b hb o e _ => k4 _ _ (by
        rcases hb with rfl | hb
        · exact .inr ⟨Nat.le_refl _, Nat.lt_add_of_pos_right (by decide)⟩
        · exact .inl hb) e
      refine wpAny_list_append l4 (fun h5 l5 hs5 => ?_) (by rw [List.size_toArray, hl, sizeLine_eq]; omega)
      have c5 : Ch (I + 1) s₄ { s₄ with heap := h5 } := ⟨_, s₄.toks, rfl, fun b o hb e => (hs5.2 b hb).trans e⟩
      refine ⟨k, by omega, i + 1, ys ++ [y], _, by omega, by simp [hl], hJ _ _ _ _ _ j4 (by omega) (by omega) (list_nf l4) c5, hsI _ _ _ _ st4 (.inl rfl) c5.up, ?_, ns_at m4 fun o e => c5.up _ _ nDC.symm e⟩
      show h5.IsList (I + 1) (ys ++ [y]).toArray
      simpa using l5
  refine codeAny_compStart_list ?_ ?_
  · exact loop
  · exact W.self 0 _ _ _ st1 loop
end
end Mine
end

section
open PySem PySem.W PySem.Calls PyProof.Rows
set_option maxRecDepth 100000
set_option linter.unusedVariables false
namespace Mine
noncomputable def cmpL : List Int → List Int → Int
  | x :: xs, y :: ys => if x = y then cmpL xs ys else x - y
  | _, _ => 0
theorem cmpL_at : ∀ {i : Nat} {a b : List Int}, i < a.length → a.length = b.length → (∀ j < i, a.getD j 0 = b.getD j 0) → a.getD i 0 ≠ b.getD i 0 → cmpL a b = a.getD i 0 - b.getD i 0
  | 0, x :: xs, y :: ys, _, _, _, hn => by
    have hn : x ≠ y := hn
    show (if x = y then _ else x - y) = x - y
    rw [if_neg hn]
  | i + 1, x :: xs, y :: ys, hi, hl, he, hn => by
    have e0 : x = y := he 0 (by omega)
    show (if x = y then cmpL xs ys else _) = xs.getD i 0 - ys.getD i 0
    rw [if_pos e0]
    exact cmpL_at (by simpa using hi) (by simpa using hl) (fun j hj => he (j + 1) (by omega)) hn
  | _, [], _, hi, _, _, _ => by simp at hi
  | _, _ :: _, [], _, hl, _, _ => by simp at hl
theorem cmpL_eq : ∀ {a b : List Int}, a.length = b.length → (∀ j < a.length, a.getD j 0 = b.getD j 0) → cmpL a b = 0
  | [], [], _, _ => rfl
  | x :: xs, y :: ys, hl, he => by
    have e0 : x = y := he 0 (by simp)
    show (if x = y then cmpL xs ys else _) = 0
    rw [if_pos e0]
    exact cmpL_eq (by simpa using hl) fun j hj => he (j + 1) (by simpa using hj)
  | [], _ :: _, hl, _ => by simp at hl
  | _ :: _, [], hl, _ => by simp at hl
section
variable {w : World} {A : Around} {E : Value → Shared → Prop} {s : Shared} {Q : Value → Shared → Prop}
theorem item_ints {l : Addr} {ns : List Int} {i : Nat} {t : Tok} {value slice : PySem.Expr} (hl : LInts s.heap l ns) (hi : i < ns.length) (hn : ns.length ≤ 100) (h : ∀ u, Q (.int (ns.getD i 0) u) s)
    (hs : subscripted slice false (.ref l) (.int (i : Int) t) = operate [.ref l, .int (i : Int) t] (getItem (.ref l) (.int (i : Int) t)) := by with_unfolding_all rfl) (hg : ∀ r, letTemporaryGo value (.ref l) r = pure () := by intro _; with_unfolding_all rfl) :
    wpAny (model prg w) A (subscriptTail value slice (.ref l) (.int (i : Int) t)) Q E s := by
  obtain ⟨vs, il, iv⟩ := hl
  have e := iv.length
  refine item_list il (by omega) (by rw [e]; omega) (by omega) ?_ hs
  obtain ⟨tt, et⟩ := ints_getD iv (k := ((i : Nat) : Int).toNat) (by rw [Int.toNat_natCast]; exact hi)
  rw [et, Int.toNat_natCast]
  exact h tt
theorem compared_spec {a b : Addr} {na nb : List Int} (hA : Ar 2 A) (X : TG w s.heap) (ha : LInts s.heap a na) (hb : LInts s.heap b nb) (h5 : na.length = 5) (h5' : nb.length = 5)
    (hQ : ∀ t s', KS s s' → Q (.int (cmpL na nb) t) s') : wpAny (model prg w) A (PySem.call (.ref 125) [.ref a, .ref b]) Q E s := by
  refine (enterD (body := bodyAt 14) (args := ⟨[.ref a, .ref b], []⟩) hA X.1 rfl rfl rfl (BindsTo.of_eq rfl) rfl (by decide) (locs rfl) rfl rfl rfl (fun s₁ x₁ k₁ => ?_)).resolve_right (fun q => q rfl)
  have X₁ := X.d x₁.ks.d
  refine wpAny_execs_cons ?_
  refine wpAny_For ?_
  refine Call_ (bname X₁.1 (by kernel_rfl) boot_range (by decide) rfl rfl rfl rfl ?_)
  refine tcall (spliced_more (wpAny_Constant_int (spliced_none ?_)))
  refine call_range_1 ?_
  refine iterF_range (Heap.get?_push_size _ rfl) (by decide) _ _ fun o St W ho st0 => ?_
  generalize he : callEnv (fnD 14 (.ref 124) .none (.str (Str.ofString "law_pe0222_01") 2239) 3 .none 0) s.heap.objs.size 125 = env at x₁ ⊢
  have W' := W (A.deeper env) (hA.deeper _).hh
  generalize hI : (s₁.heap.push _).objs.size = I at W' ⊢
  have hIs : s.heap.objs.size ≤ I := by
    have := x₁.ns.lt
    rw [← he] at this
    rw [← hI, Heap.size_push]
    exact Nat.le_of_lt (Nat.lt_succ_of_lt this)
  refine for_gen W' (fun i s' => ∃ m, Fn s env m (fun _ => none) s' ∧ m "one" = some (.ref a) ∧ m "other" = some (.ref b) ∧ ∀ j < i, na.getD j 0 = nb.getD j 0) ?_ ?_ ?_ ?_ ?_
  · rintro i s₁ h' tk ⟨m, x₁, e1, e2, e3⟩ hst kk
    exact ⟨m, x₁.it (W'.own _ _ hst) hIs ⟨_, _, rfl, kk⟩, e1, e2, e3⟩
  · rintro i v s₁ hi hp ⟨m, x₁, e1, e2, e3⟩ hst
    obtain ⟨hi', ti, rfl⟩ := hp
    have hi5 : i < 5 := hi
    refine wpAny_assign_Name ?_
    refine x₁.st (by rw [← he]; rfl) (by rw [← he]; rfl) fun s₂ x₂ c₂ => ?_
    have la := lints_d X.2 ha x₂.ks.d
    have lb := lints_d X.2 hb x₂.ks.d
    refine wpAny_execs_cons ?_
    refine wpAny_If (wpAny_isTrue_Compare1 ?_)
    refine Subscript_ (x₂.ld (by rw [← he]; rfl) (by rw [← he]; rfl) e1 ?_)
    refine x₂.ld (by rw [← he]; rfl) (by rw [← he]; rfl) rfl ?_
    refine item_ints la (by omega) (by omega) fun u1 => ?_
    refine Subscript_ (x₂.ld (by rw [← he]; rfl) (by rw [← he]; rfl) e2 ?_)
    refine x₂.ld (by rw [← he]; rfl) (by rw [← he]; rfl) rfl ?_
    refine item_ints lb (by omega) (by omega) fun u2 => ?_
    refine ne_int ?_
    refine wpAny_truthy_bool ?_
    by_cases hq : na.getD i 0 = nb.getD i 0
    · rw [show (na.getD i 0 != nb.getD i 0) = false by simpa using hq]
      refine wpAny_execs_nil ?_
      refine wpAny_execs_nil ⟨⟨_, x₂, e1, e2, fun j hj => ?_⟩, ?_⟩
      · rcases Nat.lt_succ_iff_lt_or_eq.mp hj with hj | rfl
        · exact e3 j hj
        · exact hq
      · refine W'.frame _ _ _ hst fun b hb o e hd => c₂.up _ _ ?_ e
        rintro rfl
        obtain ⟨o', es, ep, e', d', _⟩ := x₁.ns
        rw [e] at e'; cases e'
        rcases hd with ⟨vs, hd⟩ | ⟨vs, n, hd⟩ <;> (rw [hd] at d'; cases d')
    · rw [show (na.getD i 0 != nb.getD i 0) = true by simpa using hq]
      refine wpAny_execs_cons ?_
      refine wpAny_Return_some ?_
      refine wpAny_BinOp ?_
      refine Subscript_ (x₂.ld (by rw [← he]; rfl) (by rw [← he]; rfl) e1 ?_)
      refine x₂.ld (by rw [← he]; rfl) (by rw [← he]; rfl) rfl ?_
      refine item_ints la (by omega) (by omega) fun u3 => ?_
      refine Subscript_ (x₂.ld (by rw [← he]; rfl) (by rw [← he]; rfl) e2 ?_)
      refine x₂.ld (by rw [← he]; rfl) (by rw [← he]; rfl) rfl ?_
      refine item_ints lb (by omega) (by omega) fun u4 => ?_
      refine sub_int ?_
      rw [← cmpL_at (by omega) (by omega) e3 hq]
      exact hQ _ _ (x₂.ks.trans ⟨_, _, rfl, .refl _⟩)
  · rintro s₁ ⟨m, x₁, e1, e2, e3⟩
    refine wpAny_execs_cons ?_
    refine wpAny_Return_some (wpAny_Constant_int ?_)
    have := hQ s₁.toks { s₁ with toks := s₁.toks + 1 } (x₁.ks.trans ⟨_, _, rfl, .refl _⟩)
    rw [cmpL_eq (by omega) fun j hj => e3 j (by show j < 5; omega)] at this
    exact this
  · refine ⟨_, x₁.to (KS.of_keeps ⟨_, _, rfl, fun b o e => Heap.get?_push_of_some _ (Heap.get?_push_of_some _ e)⟩), rfl, rfl, fun j hj => absurd hj (Nat.not_lt_zero _)⟩
  · exact st0
end
end Mine
end

section
open PySem PySem.W PySem.Calls PyProof.Rows
set_option maxRecDepth 100000
set_option linter.unusedVariables false
namespace Mine
theorem deedR_len {row : List Int} {c : Nat} (h : row.length = 5) : (deedR row c).length = 5 := fold_len h _
theorem deeds_len : ∀ {codes : List Nat} {row : List Int}, row.length = 5 → (codes.foldl deedR row).length = 5
  | [], _, h => h
  | c :: l, row, h => by
    show (l.foldl deedR (deedR row c)).length = 5
    exact deeds_len (deedR_len h)
theorem deeds_take {row : List Int} (l : List Nat) {i c : Nat} (h : l[i]? = some c) : (l.take (i + 1)).foldl deedR row = deedR ((l.take i).foldl deedR row) c := by
  rw [List.take_add_one, h, List.foldl_append]; rfl
section
variable {w : World} {A : Around} {E : Value → Shared → Prop} {s : Shared} {Q : Value → Shared → Prop}
theorem redDeed_spec {a : Addr} {row : List Int} {codes : List Nat} {t : Tok} (hA : Ar 10 A) (X : TG w s.heap) (ha : LInts s.heap a row) (h5 : row.length = 5) (hc : ∀ c ∈ codes, c ∈ codesN)
    (hQ : ∀ acc s', KS s s' → LInts s'.heap acc (codes.foldl deedR row) → Q (.ref acc) s') : wpAny (model prg w) A (PySem.call (.ref 30) [.ref 118, .str ⟨codes.toArray⟩ t, .ref a]) Q E s := by
  refine reduce_spec (kk := 9) (rows := fun i => (codes.take i).foldl deedR row) hA X (fun A' s' k => iterF_str) (by simp) (fnAt_K X.1 rfl) ?_ ha ?_
  · intro A' hA' i v acc s' Q' E' _ hi hp ks X' la hk'
    obtain ⟨ch, u, ech, rfl⟩ := hp
    have ech : codes[i]? = some ch := by simpa using ech
    refine deed_spec hA' X' la (deeds_len h5) (hc _ (List.mem_of_getElem? ech)) fun D s'' k l => hk' D s'' k ?_
    show LInts _ _ ((codes.take (i + 1)).foldl deedR row)
    rw [deeds_take _ ech]
    exact l
  · intro acc s' k l
    refine hQ acc s' k ?_
    have e : codes.take (codes.toArray.size) = codes := by rw [List.size_toArray, List.take_length]
    have l : LInts s'.heap acc ((codes.take codes.toArray.size).foldl deedR row) := l
    rw [e] at l; exact l
end
end Mine
end

section
open PySem PySem.W PySem.Calls PyProof.Rows
set_option maxRecDepth 100000
set_option linter.unusedVariables false
namespace Mine
noncomputable def first5 : List Int := [0, 1, 2, 3, 4]
/-- the while's times -/
noncomputable def wl (codes : List Nat) : Nat → List Int → Nat → Nat
  | 0, _, t => t
  | f + 1, ag, t => if ag ≠ first5 ∧ t < 9 then wl codes f (codes.foldl deedR ag) (t + 1) else t
noncomputable def tFor : Stmt := (bodyAt 15).getD 2 (.Pass default)
noncomputable def tB : List Stmt := match tFor with | .For _ _ b _ _ => b | _ => []
noncomputable def tWhile : Stmt := tB.getD 5 (.Pass default)
noncomputable def toldF : FuncData := fnD 15 (.ref 129) .none (.str (Str.ofString "law_pe0222_01") 2239) 3 .none 0
noncomputable def toldE (L : Addr) : Env := callEnvC toldF L 130
/-- all lists and tuples kept -/
noncomputable def LK (h h' : Heap) : Prop := ∀ b o, h.get? b = some o → (∃ vs n, o.data = .seq vs n) → h'.get? b = some o
theorem LK.refl (h : Heap) : LK h h := fun _ _ x _ => x
theorem LK.trans {h h' h'' : Heap} (x : LK h h') (y : LK h' h'') : LK h h'' := fun b o e d => y b o (x b o e d) d
theorem LK.list {h h' : Heap} (x : LK h h') {a : Addr} {vs : Array Value} (y : h.IsList a vs) : h'.IsList a vs := let ⟨o, e, c, n, d⟩ := y; ⟨o, x _ _ e ⟨_, _, d⟩, c, n, d⟩
theorem LK.plain {h h' : Heap} (x : LK h h') {a : Addr} {vs : Array Value} (y : h.PlainList a vs) : h'.PlainList a vs := let ⟨n, e⟩ := y; ⟨n, x _ _ e ⟨_, _, rfl⟩⟩
theorem LK.ints {h h' : Heap} (x : LK h h') {a : Addr} {ns : List Int} (y : LInts h a ns) : LInts h' a ns := let ⟨vs, i, r⟩ := y; ⟨vs, x.list i, r⟩
theorem LK.up {h h' : Heap} (k : Up h h') : LK h h' := fun b o e _ => k b o e
theorem LK.d {h h' : Heap} (t : T13 h) (k : Kd h h') : LK h h' := fun b o e d => k.1 b o (by
  rintro rfl
  obtain ⟨ps, e', _⟩ := t
  rw [e] at e'; cases e'
  obtain ⟨vs, n, d⟩ := d
  cases d) e
theorem LK.ns {s s' : Shared} {a : Addr} {m : Str → Option Value} (y : s.heap.Ns a m) (c : Ch a s s') : LK s.heap s'.heap := fun b o e d => c.up b o (by
  rintro rfl
  obtain ⟨o', es, ep, e', d', _⟩ := y
  rw [e] at e'; cases e'
  obtain ⟨vs, n, d⟩ := d
  rw [d] at d'; cases d') e
theorem LK.cell {s s' : Shared} {a : Addr} {v : Option Value} (y : s.heap.IsCell a v) (c : Ch a s s') : LK s.heap s'.heap := fun b o e d => c.up b o (by
  rintro rfl
  obtain ⟨o', e', d'⟩ := y
  rw [e] at e'; cases e'
  obtain ⟨vs, n, d⟩ := d
  rw [d] at d'; cases d') e
/-- all kept but for the frame's own and the table -/
noncomputable def KX (L : Addr) (h h' : Heap) : Prop := ∀ b o, b ≠ 113 → b ≠ L → b ≠ L + 1 → h.get? b = some o → h'.get? b = some o
theorem KX.refl (L : Addr) (h : Heap) : KX L h h := fun _ _ _ _ _ e => e
theorem KX.trans {L : Addr} {h h' h'' : Heap} (x : KX L h h') (y : KX L h' h'') : KX L h h'' := fun b o n1 n2 n3 e => y b o n1 n2 n3 (x b o n1 n2 n3 e)
theorem KX.up {L : Addr} {h h' : Heap} (k : Up h h') : KX L h h' := fun b o _ _ _ e => k b o e
theorem KX.d {L : Addr} {h h' : Heap} (k : Kd h h') : KX L h h' := fun b o n1 _ _ e => k.1 b o n1 e
theorem KX.ch {L : Addr} {s s' : Shared} (c : Ch L s s') : KX L s.heap s'.heap := fun b o _ n _ e => c.up b o n e
theorem KX.ch1 {L : Addr} {s s' : Shared} (c : Ch (L + 1) s s') : KX L s.heap s'.heap := fun b o _ _ n e => c.up b o n e
section
variable {w : World} {A : Around} {E : Value → Shared → Prop} {s s₀ : Shared} {L : Addr} {m cm : Str → Option Value}
theorem told_while {codes : List Nat} {f a : Addr} {row : List Int} {k : Nat} {tt t : Tok} {Q : Flow → Shared → Prop} (hA : Ar 11 A) (X₀ : TG w s₀.heap) (x : Fn s₀ (toldE L) m cm s) (hc : ∀ c ∈ codes, c ∈ codesN)
    (e1 : m "again" = some (.ref a)) (e2 : m "times" = some (.int k t)) (e3 : m "text" = some (.str ⟨codes.toArray⟩ tt)) (e4 : cm "first" = some (.ref f)) (lf : LInts s.heap f first5) (la : LInts s.heap a row) (h5 : row.length = 5)
    (hQ : ∀ s' m' t', Fn s₀ (toldE L) m' cm s' → (∀ y : Str, y ≠ "again" → y ≠ "times" → m' y = m y) → m' "times" = some (.int (wl codes (9 - k) row k) t') → LK s.heap s'.heap → KX L s.heap s'.heap → Q .next s') :
    wpAny (model prg w) A (exec tWhile (toldE L)) Q E s := by
  refine wpAny_While ?_
  refine codeAny_whileLoop (fun n s' => ∃ m' a' row' k' t', Fn s₀ (toldE L) m' cm s' ∧ (∀ y : Str, y ≠ "again" → y ≠ "times" → m' y = m y) ∧ m' "again" = some (.ref a') ∧ m' "times" = some (.int (k' : Nat) t') ∧ LInts s'.heap a' row' ∧ row'.length = 5 ∧
    n = 9 - k' ∧ wl codes (9 - k) row k = wl codes (9 - k') row' k' ∧ LK s.heap s'.heap ∧ KX L s.heap s'.heap) ?_ (9 - k) ⟨m, a, row, k, t, x, fun _ _ _ => rfl, e1, e2, la, h5, rfl, rfl, .refl _, .refl _ _⟩
  rintro n s₁ ⟨m', a', row', k', t', x₁, hm, f1, f2, l1, l5, hn, hw, lk, kx⟩
  have X₁ := X₀.d x₁.ks.d
  refine isTrue_and ?_
  refine wpAny_isTrue_Compare1 ?_
  refine x₁.ld rfl rfl f1 ?_
  refine x₁.ldc rfl rfl rfl e4 ?_
  obtain ⟨va, ia, ra⟩ := l1
  obtain ⟨vf, jf, rf⟩ := lk.ints lf
  refine ne_intsK ia ra jf rf hA.unit ?_
  refine wpAny_truthy_bool ?_
  have stop : ∀ tk, ¬ (row' ≠ first5 ∧ k' < 9) → wpAny (model prg w) A (execs [] (toldE L)) (fun f s₃ => match (Except.ok f : Result) with | .ok f => Q f s₃ | .error e => cameBackBy (model prg w) A (toldE L) E e s₃) (notedBy (model prg w) A (toldE L) fun e s' => match (Except.error e : Result) with | .ok f => Q f s' | .error e => cameBackBy (model prg w) A (toldE L) E e s') { s₁ with toks := tk } := fun tk h => by
    refine wpAny_execs_nil ?_
    refine hQ _ m' t' (x₁.to ⟨_, _, rfl, .refl _⟩) hm ?_ lk kx
    rw [hw, f2]
    congr 2
    rcases Nat.lt_or_ge k' 9 with h9 | h9
    · obtain ⟨j, ej⟩ : ∃ j, 9 - k' = j + 1 := ⟨8 - k', by omega⟩
      rw [ej, wl, if_neg h]
    · rw [show 9 - k' = 0 by omega, wl]
  by_cases hr : row' = first5
  · rw [show (!decide (row' = first5)) = false by simp [hr]]
    exact stop _ fun h => h.1 hr
  · rw [show (!decide (row' = first5)) = true by simp [hr]]
    refine isTrue_and ?_
    refine wpAny_isTrue_Compare1 ?_
    refine x₁.ld rfl rfl f2 ?_
    refine wpAny_Constant_int ?_
    refine lt_int ?_
    refine wpAny_truthy_bool ?_
    by_cases h9 : k' < 9
    · rw [show decide ((k' : Int) < 9) = true by simpa using (by omega : (k' : Int) < 9)]
      refine isTrue_and_nil ?_
      refine wpAny_execs_cons ?_
      refine wpAny_Assign_Name ?_
      refine Call_ (gname (v := .ref 30) (X₁.1 : Gl w ({ s₁ with toks := s₁.toks + 1 } : Shared).heap) (by kernel_rfl) rfl rfl rfl ?_)
      refine callWith_K (K := K w.params) X₁.1.k (by kernel_rfl) ?_
      refine spliced_more (gname (v := .ref 118) (X₁.1 : Gl w ({ s₁ with toks := s₁.toks + 1 } : Shared).heap) (by kernel_rfl) rfl rfl rfl ?_)
      have x₁' : Fn s₀ (toldE L) m' cm { s₁ with toks := s₁.toks + 1 } := x₁.to ⟨_, _, rfl, .refl _⟩
      refine spliced_more (x₁'.ld rfl rfl ((hm _ (by decide) (by decide)).trans e3) ?_)
      refine spliced_more (x₁'.ld rfl rfl f1 (spliced_none ⟨X₁.1.k, ?_⟩))
      refine redDeed_spec (row := row') ((hA.le (by decide))) X₁ ⟨va, ia, ra⟩ l5 hc fun acc s₂ k₂ l2 => ?_
      have x₂ := x₁'.to k₂
      refine x₂.st rfl rfl fun s₃ x₃ c₃ => ?_
      refine wpAny_execs_cons ?_
      refine wpAny_AugAssign_Name ?_
      refine wpAny_loadName_local rfl rfl x₃.ns (v := .int k' t') ?_ ?_
      · show (if _ then _ else m' _) = _
        rw [if_neg (by decide)]; exact f2
      refine wpAny_Constant_int ?_
      refine iadd_int ?_
      refine (x₃.to (⟨_, _, rfl, .refl _⟩ : KS s₃ { s₃ with toks := s₃.toks + 1 + 1 })).st rfl rfl fun s₄ x₄ c₄ => ?_
      refine wpAny_execs_nil ?_
      have lk2 : LK s₁.heap s₂.heap := LK.d X₁.2 k₂.d
      have lk3 : LK s₂.heap s₃.heap := LK.ns x₂.ns c₃
      have lk4 : LK s₃.heap s₄.heap := LK.ns x₃.ns c₄
      refine ⟨9 - (k' + 1), by omega, _, acc, codes.foldl deedR row', k' + 1, s₃.toks + 1, x₄, fun y h1 h2 => ?_, ?_, ?_, lk4.ints (lk3.ints l2), deeds_len l5, rfl, ?_, lk.trans (lk2.trans (lk3.trans lk4)), kx.trans ((KX.d k₂.d).trans ((KX.ch (L := L) c₃).trans (KX.ch (L := L) c₄)))⟩
      · show (if _ then _ else if _ then _ else m' _) = _
        rw [if_neg h2, if_neg h1]; exact hm y h1 h2
      · rfl
      · show (if _ then some (Value.int _ _) else _) = _
        rw [if_pos rfl]
        rfl
      · rw [hw]
        obtain ⟨j, ej⟩ : ∃ j, 9 - k' = j + 1 := ⟨8 - k', by omega⟩
        rw [ej, wl, if_pos ⟨hr, h9⟩]
        congr 1
        omega
    · rw [show decide ((k' : Int) < 9) = false by simpa using (by omega : ¬ (k' : Int) < 9)]
      rw [if_neg (by decide), if_neg (by decide)]
      exact stop _ fun h => h9 h.2
end
end Mine
end

section
open PySem PySem.W PySem.Calls PyProof.Rows
set_option maxRecDepth 100000
set_option linter.unusedVariables false
namespace Mine
noncomputable def tJoin : PySem.Expr := match tB.getD 6 (.Pass default) with | .Expr (.Call _ [.List [_, e, _] _] _ _) _ => e | _ => .Name "" default
noncomputable def tComp : PySem.Expr := match tJoin with | .Call _ [_, c] _ _ => c | _ => .Name "" default
noncomputable def tElt : PySem.Expr := match tComp with | .ListComp e _ _ _ => e | _ => .Name "" default
noncomputable def tSc : Scope := match tComp with | .ListComp _ _ s _ => s | _ => default
theorem tComp_eq : tComp = .ListComp tElt [⟨.Name (Str.ofString "sign") (match tComp with | .ListComp _ [⟨.Name _ p, _, _, _⟩] _ _ => p | _ => default), .Name (Str.ofString "text") (match tComp with | .ListComp _ [⟨_, .Name _ p, _, _⟩] _ _ => p | _ => default), [], 0⟩] tSc (match tComp with | .ListComp _ _ _ p => p | _ => default) := by kernel_rfl
/-- the comprehension's elements so far -/
noncomputable def DeedsAt (codes : List Nat) (lo i : Nat) (ys : List Value) (h : Heap) : Prop := ys.length = i ∧ ∀ j < i, ∃ a, ys[j]? = some (.ref a) ∧ LInts h a (deedR first5 (codes.getD j 0)) ∧ (a < lo ∨ lo + 3 ≤ a)
theorem out3 (D n : Nat) (h : n ≤ D) (n0 : D ≠ n) (n1 : D ≠ n + 1) (n2 : D ≠ n + 2) : n + 3 ≤ D := by omega
section
variable {w : World} {A : Around} {E : Value → Shared → Prop} {s s₀ : Shared} {L : Addr} {m cm : Str → Option Value}
theorem told_comp {codes : List Nat} {f : Addr} {tt : Tok} {Q : Value → Shared → Prop} (hA : Ar 11 A) (X : TG w s.heap) (x : Fn s₀ (toldE L) m cm s) (hc : ∀ c ∈ codes, c ∈ codesN) (hn : codes.length ≤ 1000)
    (e3 : m "text" = some (.str ⟨codes.toArray⟩ tt)) (e4 : s.heap.IsCell (L + 1) (some (.ref f))) (lf : LInts s.heap f first5)
    (hQ : ∀ D s' (ys : List Value), KS s s' → s'.heap.IsList D ys.toArray → DeedsAt codes s.heap.objs.size codes.length ys s'.heap → Q (.ref D) s') :
    wpAny (model prg w) A (eval tComp (toldE L)) Q E s := by
  rw [tComp_eq]
  have fl : f < s.heap.objs.size := let ⟨_, il, _⟩ := lf; isList_lt il
  refine comp_inv (s₁ := s) (xv := .str ⟨codes.toArray⟩ tt) (n := codes.length) (fp := []) (P := SignAt ⟨codes.toArray⟩) (cl := [(Str.ofString "first", L + 1)]) (fun i ys s' => KS s s' ∧ DeedsAt codes s.heap.objs.size i ys s'.heap) (by rfl) (by decide) (by rfl) (by decide) (by decide) hA.hh hn ?_ ?_ (by simp) ?_ ?_ ?_ ?_
  · intro Q' q
    exact x.ld rfl rfl e3 q
  · have := iterF_str (w := w) (A := A) (s := s) (x := ⟨codes.toArray⟩) (t := tt)
    simpa using this
  · intro s' k
    exact ⟨KS.of_keeps k, rfl, fun j hj => absurd hj (Nat.not_lt_zero _)⟩
  · rintro i ys a s' s'' ⟨ks, hl, hy⟩ h1 h2 na ch
    have h13 : 113 < a := Nat.lt_of_lt_of_le (Nat.lt_of_lt_of_le (by decide) X.1.size) h1
    refine ⟨ch_ks na ks h1 h13 ch, hl, fun j hj => ?_⟩
    obtain ⟨b, eb, lb, nb⟩ := hy j hj
    have ne : b ≠ a := by rintro rfl; exact nb.elim (fun nb => absurd nb (Nat.not_lt.mpr h1)) fun nb => absurd h2 (Nat.not_lt.mpr nb)
    obtain ⟨vs, il, r⟩ := lb
    exact ⟨b, eb, ⟨vs, isList_at il fun o e => ch.up _ _ ne e, r⟩, nb⟩
  · rintro i v ys s₃ m₃ Q' E' hi hp hl hsz hns hm il fi ⟨ks, _, hy⟩ hk
    obtain ⟨ch, u, ech, rfl⟩ := hp
    have ech : codes[i]? = some ch := by simpa using ech
    have X₃ := X.d ks.d
    have c3 : s₃.heap.IsCell (L + 1) (some (.ref f)) := by
      refine cell_at e4 fun o e => ks.get _ _ ?_ e
      rintro h
      obtain ⟨ps, e', _⟩ := X.2
      obtain ⟨oc, ec, dc⟩ := e4
      rw [h, e'] at ec; cases ec; cases dc
    have l3 := lints_d X.2 lf ks.d
    refine Call_ (gname (v := .ref 118) X₃.1 (by kernel_rfl) rfl rfl rfl ?_)
    refine callWith_K (K := K w.params) X₃.1.k (by kernel_rfl) ?_
    refine spliced_more (wpAny_Name (wpAny_loadName_cell (c := L + 1) rfl rfl rfl c3 ?_))
    refine spliced_more (wpAny_Name (wpAny_loadName_local rfl rfl hns hm (spliced_none ⟨X₃.1.k, ?_⟩)))
    refine deed_spec (hA.le (by decide)) X₃ l3 rfl (hc _ (List.mem_of_getElem? ech)) fun D s₄ k₄ l4 => ?_
    have il4 := isList_d X₃.2 il k₄.d
    have ns4 : s₄.heap.Ns (s.heap.objs.size + 2) m₃ := ns_at hns fun o e => k₄.get _ _ (Nat.ne_of_gt (Nat.lt_of_lt_of_le (Nat.lt_of_lt_of_le (by decide) X.1.size) (Nat.le_add_right _ _))) e
    have fi4 : Fields s₄.heap s.heap.objs.size := fi.at fun o e => k₄.get _ _ (Nat.ne_of_gt (Nat.lt_of_lt_of_le (by decide) X.1.size)) e
    have nD : D < s.heap.objs.size ∨ s.heap.objs.size + 3 ≤ D := by
      obtain ⟨vs, ivs, iv⟩ := l4
      have n0 : D ≠ s.heap.objs.size := fi4.ne_list ivs
      have n2 : D ≠ s.heap.objs.size + 2 := list_ne_ns ivs ns4
      have n1 : D ≠ s.heap.objs.size + 1 := by
        rintro rfl
        obtain ⟨o1, g1, _, _, d1⟩ := ivs
        obtain ⟨o2, g2, _, _, d2⟩ := il4
        rw [g1] at g2; cases g2
        rw [d1] at d2
        injection d2 with d2 _
        have d2 : vs = ys := by simpa using d2
        subst d2
        have hv5 : vs.length = 5 := by rw [iv.length]; exact deedR_len rfl
        obtain ⟨a, ea, _⟩ := hy 0 (by omega)
        obtain ⟨k, t, e, _⟩ := ints_at iv ea
        cases e
      rcases Nat.lt_or_ge D s.heap.objs.size with h | h
      · exact .inl h
      · exact .inr (out3 D _ h n0 n1 n2)
    refine hk (.ref D) s₄ ⟨ks.trans k₄, by simp [hl], fun j hj => ?_⟩ fun b o hb e => k₄.get _ _ ?_ e
    · rcases Nat.lt_succ_iff_lt_or_eq.mp hj with hj | rfl
      · obtain ⟨b, eb, lb, nb⟩ := hy j hj
        exact ⟨b, by rw [List.getElem?_append_left (by omega)]; exact eb, lints_d X₃.2 lb k₄.d, nb⟩
      · refine ⟨D, by rw [List.getElem?_append_right (by omega)]; simp [hl], ?_, nD⟩
        rw [List.getD_eq_getElem?_getD, ech]
        exact l4
    · rcases hb with hb | hb
      · cases hb
      · exact Nat.ne_of_gt (Nat.lt_of_lt_of_le (Nat.lt_of_lt_of_le (by decide) X.1.size) hb.1)
  · rintro s' ys il hl ⟨ks, hd⟩
    exact hQ _ _ ys ks il hd
end
end Mine
end

section
open PySem PySem.W PySem.Calls PyProof.Rows
set_option maxRecDepth 100000
set_option linter.unusedVariables false
namespace Mine
noncomputable def In5 (r : List Int) : Prop := r.length = 5 ∧ ∀ x ∈ r, 0 ≤ x ∧ x < 5
theorem jn_in5 {a b : List Int} (ha : In5 a) (hb : b.length = 5) : In5 (jn a b) := by
  refine ⟨by rw [jn_len, hb], fun x hx => ?_⟩
  obtain ⟨i, _, rfl⟩ := List.mem_map.mp hx
  rw [List.getD_eq_getElem?_getD]
  cases e : a[i.toNat]? with
  | none => simp
  | some y => exact ha.2 y (List.mem_of_getElem? e)
theorem step1_in5 {r : List Int} (h : In5 r) (c : Nat) : In5 (step1 r c) := jn_in5 h (mv_ok c).1
theorem fold1_in5 : ∀ (l : List Nat) {r : List Int}, In5 r → In5 (l.foldl step1 r)
  | [], _, h => h
  | c :: l, r, h => fold1_in5 l (step1_in5 h c)
theorem deedR_in5 {r : List Int} (h : In5 r) (c : Nat) : In5 (deedR r c) := fold1_in5 _ h
theorem deeds_in5 : ∀ (l : List Nat) {r : List Int}, In5 r → In5 (l.foldl deedR r)
  | [], _, h => h
  | c :: l, r, h => by
    show In5 (l.foldl deedR (deedR r c))
    exact deeds_in5 l (deedR_in5 h c)
theorem first5_in5 : In5 first5 := by unfold In5 first5; decide
/-- the deeds joined, the first i -/
noncomputable def jd (codes : List Nat) : Nat → List Int
  | 0 => first5
  | 1 => deedR first5 (codes.getD 0 0)
  | i + 1 => jn (jd codes i) (deedR first5 (codes.getD i 0))
theorem jd_in5 (codes : List Nat) : ∀ i, In5 (jd codes i)
  | 0 => first5_in5
  | 1 => deedR_in5 first5_in5 _
  | i + 2 => jn_in5 (jd_in5 codes (i + 1)) (deedR_len rfl)
theorem tJoin_eq : tJoin = .Call (.Name (Str.ofString "reduce") (match tJoin with | .Call (.Name _ p) _ _ _ => p | _ => default)) [.Name (Str.ofString "_law_joined") (match tJoin with | .Call _ [.Name _ p, _] _ _ => p | _ => default), tComp] [] (match tJoin with | .Call _ _ _ p => p | _ => default) := by kernel_rfl
section
variable {w : World} {A : Around} {E : Value → Shared → Prop} {s s₀ : Shared} {L : Addr} {m cm : Str → Option Value}
theorem told_join {codes : List Nat} {f : Addr} {tt : Tok} {Q : Value → Shared → Prop} (hA : Ar 12 A) (X : TG w s.heap) (x : Fn s₀ (toldE L) m cm s) (hc : ∀ c ∈ codes, c ∈ codesN) (hn : codes.length ≤ 1000) (hn0 : 0 < codes.length)
    (e3 : m "text" = some (.str ⟨codes.toArray⟩ tt)) (e4 : s.heap.IsCell (L + 1) (some (.ref f))) (lf : LInts s.heap f first5)
    (hQ : ∀ D s', KS s s' → LInts s'.heap D (jd codes codes.length) → Q (.ref D) s') :
    wpAny (model prg w) A (eval tJoin (toldE L)) Q E s := by
  rw [tJoin_eq]
  refine Call_ (gname (v := .ref 30) X.1 (by kernel_rfl) rfl rfl rfl ?_)
  refine callWith_K (K := K w.params) X.1.k (by kernel_rfl) ?_
  refine spliced_more (gname (v := .ref 111) X.1 (by kernel_rfl) rfl rfl rfl ?_)
  refine spliced_more (told_comp (hA.le (by decide)) X x hc hn e3 e4 lf fun D s₁ ys k₁ il hd => ?_)
  have X₁ := X.d k₁.d
  refine spliced_none ⟨X₁.1.k, ?_⟩
  obtain ⟨hl, hy⟩ := hd
  obtain ⟨a0, ea0, la0, _⟩ := hy 0 hn0
  refine reduce0_spec (kk := 4) (rows := jd codes) (hA.le (by decide)) X₁ il (fnAt_K X₁.1 rfl) ?_ ea0 la0 fun acc s' k l => ?_
  · intro A' hA' i v acc s' Q' E' h1 hi hv ks X' la hk
    obtain ⟨b, eb, lb, _⟩ := hy i (by omega)
    rw [eb] at hv
    cases hv
    have lb' := lints_d X₁.2 lb ks.d
    refine joined_ints hA' X'.1 la lb' (fun x hx => ?_) (by rw [(jd_in5 codes i).1]; decide) (by rw [deedR_len rfl]; decide) fun D s'' _ k'' l'' => hk D s'' (KS.of_keeps k'') ?_
    · rw [(jd_in5 codes i).1]
      exact (deedR_in5 first5_in5 _).2 x hx
    · obtain ⟨j, rfl⟩ : ∃ j, i = j + 1 := ⟨i - 1, by omega⟩
      exact l''
  · rw [hl] at l
    exact hQ acc s' (k₁.trans k) l
end
end Mine
end

section
open PySem PySem.W PySem.Calls PyProof.Rows
set_option maxRecDepth 100000
set_option linter.unusedVariables false
namespace Mine
section
variable {w : World} {A : Around} {E : Value → Shared → Prop} {s : Shared}
theorem do_append {env : Env} {o e : PySem.Expr} {apos pos p : Pos} {T : Addr} {Q : Flow → Shared → Prop} (hbase : attributeBase o "append" env (eval o env) = eval o env) (hs : starEach [e] env = [(false, eval e env)]) (hline : (apos.endLine == pos.line) = true) (hi : interactive env = false)
    (ho : ∀ Q' : Value → Shared → Prop, Q' (.ref T) s → wpAny (model prg w) A (eval o env) Q' E s) {its0 : Array Value} (hT : s.heap.PlainList T its0)
    (he : wpAny (model prg w) A (eval e env) (fun x s₂ => ∃ its, s₂.heap.PlainList T its ∧ its.size ≤ 1000 ∧ ∀ h', h'.PlainList T (its.push x) → Heap.SameBut T s₂.heap h' → Q .next { s₂ with heap := h' }) E s) :
    wpAny (model prg w) A (exec (.Expr (.Call (.Attribute o "append" apos) [e] [] pos) p) env) Q E s := by
  refine wpAny_Expr_any ?_ hi
  refine Call_method1 hbase hs hline (ho _ ?_)
  obtain ⟨n, hT⟩ := hT
  refine ⟨"list", "list.append", PySem.F.plainAttrs_list, slot_list_append, type_list_append, ⟨_, hT, rfl⟩, fun a ea => ?_, ?_⟩
  · cases ea; exact ⟨_, hT, rfl⟩
  · refine Calls.callWith_builtin rfl (Calls.evalArgs_plain (Calls.spliced_cons (wpAny_mono he (fun x s₂ h₂ => Calls.spliced_nil ?_) fun _ _ e => e)))
    obtain ⟨its, h2, hz, hq⟩ := h₂
    refine wpAny_list_append_plain h2 (fun h' h1 h3 => hq h' h1 h3) (by rw [sizeLine_eq]; omega)
noncomputable def codesOf (n : Int) : List Nat := [code n 0, code n 1, code n 2]
theorem codesOf_in (n : Int) : ∀ c ∈ codesOf n, c ∈ codesN := by
  have key : ∀ k, code n k ∈ codesN := fun k => (by decide : ∀ d < 14, (codes.getD d 0).toNat ∈ codesN) _ (dig_lt n k)
  intro c hc
  simp only [codesOf, List.mem_cons, List.not_mem_nil, or_false] at hc
  rcases hc with rfl | rfl | rfl <;> exact key _
noncomputable def rowN (n : Int) : List Int := (codesOf n).foldl deedR first5
noncomputable def timesN (n : Int) : Nat := wl (codesOf n) 8 (rowN n) 1
noncomputable def joinN (n : Int) : List Int := jd (codesOf n) 3
theorem ints_items {acc : Array Value} (h : ItemsOf (fun i v => ∃ t, v = .int (0 + (i : Int) * 1) t) acc 5) : IntsAre acc.toList first5 := by
  obtain ⟨hs, hv⟩ := h
  obtain ⟨l⟩ := acc
  have hs : l.length = 5 := hs
  obtain ⟨a, l0, rfl, hs0⟩ := len_cons hs
  obtain ⟨b, l1, rfl, hs1⟩ := len_cons hs0
  obtain ⟨c, l2, rfl, hs2⟩ := len_cons hs1
  obtain ⟨d, l3, rfl, hs3⟩ := len_cons hs2
  obtain ⟨e, l4, rfl, hs4⟩ := len_cons hs3
  obtain rfl := List.eq_nil_of_length_eq_zero hs4
  obtain ⟨t0, rfl⟩ := hv 0 a rfl
  obtain ⟨t1, rfl⟩ := hv 1 b rfl
  obtain ⟨t2, rfl⟩ := hv 2 c rfl
  obtain ⟨t3, rfl⟩ := hv 3 d rfl
  obtain ⟨t4, rfl⟩ := hv 4 e rfl
  exact .cons _ _ (.cons _ _ (.cons _ _ (.cons _ _ (.cons _ _ .nil))))
theorem ints_ne {h : Heap} {l X : Addr} {ns : List Int} {vs : Array Value} (h5 : 0 < ns.length) (ll : LInts h l ns) (il : h.IsList X vs) (hv : ∀ v, vs[0]? = some v → ∃ a, v = .ref a) : l ≠ X := by
  rintro rfl
  obtain ⟨us, iu, r⟩ := ll
  obtain ⟨o1, g1, _, _, d1⟩ := iu
  obtain ⟨o2, g2, _, _, d2⟩ := il
  rw [g1] at g2; cases g2
  rw [d1] at d2
  injection d2 with d2 _
  subst d2
  have hl : 0 < us.length := by rw [r.length]; exact h5
  obtain ⟨a, ea⟩ := hv us[0] (by simp [List.getElem?_eq_getElem hl])
  obtain ⟨k, t, e, _⟩ := ints_at r (List.getElem?_eq_getElem hl)
  rw [e] at ea; cases ea
theorem first_made {L : Addr} {p1 p2 p3 p4 p5 : Pos} {kk : Nat} {Q : Value → Shared → Prop} (hh : A.handled = none) (X : Gl w s.heap) (hQ : ∀ F s', Keeps s s' → LInts s'.heap F first5 → Q (.ref F) s') :
    wpAny (model prg w) A (eval (.Call (.Name (Str.ofString "list") p1) [.Call (.Name (Str.ofString "range") p2) [.Constant (.int 5) kk p3] [] p4] [] p5) (toldE L)) Q E s := by
  refine Call_ (bname (v := .type "list") X (by kernel_rfl) (by kernel_rfl) (by decide) rfl rfl rfl rfl ?_)
  refine tcall (spliced_more ?_)
  refine Call_ (bname X (by kernel_rfl) boot_range (by decide) rfl rfl rfl rfl ?_)
  refine tcall (spliced_more (wpAny_Constant_int (spliced_none ?_)))
  refine call_range_1 ?_
  refine spliced_none ?_
  refine call_list_range hh (Heap.get?_push_size _ rfl) (rsmall 5 (by decide)) (rsize 5) (by decide) fun h' tk acc' c' up g items => ?_
  refine hQ _ _ ⟨_, _, rfl, fun b o e => up b o (Heap.get?_push_of_some _ e)⟩ ⟨acc'.toList, ⟨_, g, rfl, c', by simp⟩, ints_items items⟩
theorem told_turn {L : Addr} {s₀ : Shared} {m cm : Str → Option Value} {ts rs : Array Value} {T R : Addr} {n : Int} {tn : Tok} {Q : Flow → Shared → Prop} (hA : Ar 13 A) (X₀ : TG w s₀.heap) (x : Fn s₀ (toldE L) m cm s)
    (en : m "n" = some (.int n tn)) (eT : m "told" = some (.ref T)) (eR : m "rows" = some (.ref R)) (hT : s.heap.PlainList T ts) (hR : s.heap.PlainList R rs) (hTR : T ≠ R) (hT0 : s₀.heap.objs.size ≤ T) (hR0 : s₀.heap.objs.size ≤ R) (hts : ts.size ≤ 1000) (hrs : rs.size ≤ 1000) (aT : ∀ v, ts[0]? = some v → ∃ a, v = .ref a) (aR : ∀ v, rs[0]? = some v → ∃ a, v = .ref a)
    (hQ : ∀ s' m' cm' t r j tm, Fn s₀ (toldE L) m' cm' s' → m' "told" = some (.ref T) → m' "rows" = some (.ref R) → s'.heap.PlainList T (ts.push (.ref t)) → s'.heap.PlainList R (rs.push (.ref r)) →
      s'.heap.IsList t #[.ref r, .ref j, .int (timesN n) tm] → LInts s'.heap r (rowN n) → LInts s'.heap j (joinN n) →
      (∀ b o, b ≠ T → b ≠ R → s.heap.get? b = some o → (∃ vs n, o.data = .seq vs n) → s'.heap.get? b = some o) → (∀ b o, b ≠ T → b ≠ R → b ≠ 113 → b ≠ L → b ≠ L + 1 → s.heap.get? b = some o → s'.heap.get? b = some o) → Q .next s') :
    wpAny (model prg w) A (execs tB (toldE L)) Q E s := by
  have X := X₀.d x.ks.d
  refine wpAny_execs_cons ?_
  refine wpAny_Assign_Name ?_
  refine Call_ (gname (v := .ref 99) X.1 (by kernel_rfl) rfl rfl rfl ?_)
  refine callWith_K (K := K w.params) X.1.k (by kernel_rfl) ?_
  refine spliced_more (x.ld rfl rfl en (spliced_none ⟨X.1.k, ?_⟩))
  refine text_spec (hA.le (by decide)) X.1 fun s₁ t₁ k₁ => ?_
  have x₁ := x.to (KS.of_keeps k₁)
  refine x₁.st rfl rfl fun s₂ x₂ c₂ => ?_
  have X₂ := X₀.d x₂.ks.d
  refine wpAny_execs_cons ?_
  refine wpAny_Assign_Name ?_
  refine first_made hA.hh X₂.1 fun F s₃ k₃ lf₃ => ?_
  have x₃ := x₂.to (KS.of_keeps k₃)
  refine x₃.stc rfl rfl rfl fun s₄ x₄ c₄ => ?_
  have X₄ := X₀.d x₄.ks.d
  have lk4 : LK s.heap s₄.heap := (((LK.up (kup k₁)).trans (LK.ns x₁.ns c₂)).trans (LK.up (kup k₃))).trans (LK.cell (x₃.cell (Str.ofString "first") _ rfl) c₄)
  have lf₄ := (LK.cell (x₃.cell (Str.ofString "first") _ rfl) c₄).ints lf₃
  refine wpAny_execs_cons ?_
  refine wpAny_Assign_Name ?_
  refine Call_ (gname (v := .ref 30) X₄.1 (by kernel_rfl) rfl rfl rfl ?_)
  refine callWith_K (K := K w.params) X₄.1.k (by kernel_rfl) ?_
  refine spliced_more (gname (v := .ref 118) X₄.1 (by kernel_rfl) rfl rfl rfl ?_)
  refine spliced_more (x₄.ld rfl rfl rfl ?_)
  refine spliced_more (x₄.ldc rfl rfl rfl rfl (spliced_none ⟨X₄.1.k, ?_⟩))
  refine redDeed_spec (codes := codesOf n) (hA.le (by decide)) X₄ lf₄ rfl (codesOf_in n) fun r s₅ k₅ lr₅ => ?_
  have x₅ := x₄.to k₅
  refine x₅.st rfl rfl fun s₆ x₆ c₆ => ?_
  refine wpAny_execs_cons ?_
  refine wpAny_Assign_Name (wpAny_Constant_int ?_)
  refine (x₆.to (⟨_, _, rfl, .refl _⟩ : KS s₆ { s₆ with toks := s₆.toks + 1 })).st rfl rfl fun s₇ x₇ c₇ => ?_
  refine wpAny_execs_cons ?_
  refine wpAny_Assign_Name (x₇.ld rfl rfl rfl ?_)
  refine x₇.st rfl rfl fun s₈ x₈ c₈ => ?_
  have lk8' : LK s₅.heap s₈.heap := ((LK.ns x₅.ns c₆).trans (LK.ns x₆.ns (show Ch L _ s₇ from c₇))).trans (LK.ns x₇.ns c₈)
  have lk8 : LK s₄.heap s₈.heap := (LK.d X₄.2 k₅.d).trans lk8'
  have lr₈ := lk8'.ints lr₅
  have lf₈ := lk8.ints lf₄
  refine wpAny_execs_cons ?_
  refine told_while (codes := codesOf n) (row := rowN n) (k := 1) (hA.le (by decide)) X₀ x₈ (codesOf_in n) rfl rfl rfl rfl lf₈ lr₈ (deeds_len rfl) fun s₉ m₉ t₉ x₉ hm₉ f₉ lk₉ kx₉ => ?_
  have X₉ := X₀.d x₉.ks.d
  have kx4 : KX L s.heap s₄.heap := (((KX.up (kup k₁)).trans (KX.ch (L := L) c₂)).trans (KX.up (kup k₃))).trans (KX.ch1 (L := L) c₄)
  have kx8 : KX L s₄.heap s₈.heap := (((KX.d k₅.d).trans (KX.ch (L := L) c₆)).trans (KX.ch (L := L) (show Ch L s₆ s₇ from c₇))).trans (KX.ch (L := L) c₈)
  have kxA := kx4.trans (kx8.trans kx₉)
  have lkA := lk4.trans (lk8.trans lk₉)
  refine wpAny_execs_cons ?_
  refine do_append (T := T) (by rfl) (by rfl) (by rfl) (by rfl) (fun Q' q => x₉.ld rfl rfl ((hm₉ _ (by decide) (by decide)).trans eT) q) (lkA.plain hT) ?_
  refine List_ (spliced_more (x₉.ld rfl rfl ((hm₉ _ (by decide) (by decide)).trans rfl) ?_))
  refine spliced_more ?_
  refine told_join (codes := codesOf n) (hA.le (by decide)) X₉ x₉ (codesOf_in n) (show 3 ≤ 1000 by decide) (show 0 < 3 by decide) ((hm₉ _ (by decide) (by decide)).trans rfl) (x₉.cell (Str.ofString "first") _ rfl) (lk₉.ints lf₈) fun jj s₁₀ k₁₀ lj => ?_
  have x₁₀ := x₉.to k₁₀
  have lk10 := LK.d X₉.2 k₁₀.d
  refine spliced_more (x₁₀.ld rfl rfl f₉ (spliced_none ?_))
  refine wpAny_newObj_type ?_ (by show 3 ≤ sizeLine; rw [sizeLine_eq]; decide)
  obtain ⟨t0, ht0⟩ : ∃ t0, t0 = s₁₀.heap.objs.size := ⟨_, rfl⟩
  have k₁₁ : Keeps s₁₀ { s₁₀ with heap := s₁₀.heap.push { cls := .type "list", data := .seq #[.ref r, .ref jj, .int (timesN n) t₉] } } := ⟨_, _, rfl, up_push _ _⟩
  have x₁₁ := x₁₀.to (KS.of_keeps k₁₁)
  have lk11 := LK.up (kup k₁₁)
  have lkB := lkA.trans (lk10.trans lk11)
  have lt : (s₁₀.heap.push { cls := .type "list", data := .seq #[.ref r, .ref jj, .int (timesN n) t₉] }).IsList t0 #[.ref r, .ref jj, .int (timesN n) t₉] := ⟨_, ht0 ▸ Heap.get?_push_size _ rfl, rfl, _, rfl⟩
  refine ⟨ts, lkB.plain hT, hts, fun h₁₂ hT₁₂ hs₁₂ => ?_⟩
  have c₁₂ : Ch T ({ s₁₀ with heap := s₁₀.heap.push { cls := .type "list", data := .seq #[.ref r, .ref jj, .int (timesN n) t₉] } } : Shared) { s₁₀ with heap := h₁₂ } := ⟨_, s₁₀.toks, rfl, fun b o hb e => (hs₁₂.2 b hb).trans e⟩
  have x₁₂ := x₁₁.li (lkB.plain hT).isList hT0 c₁₂
  have hR₁₂ : h₁₂.PlainList R rs := (lkB.plain hR).at fun o e => c₁₂.up _ _ (Ne.symm hTR) e
  rw [← ht0] at hT₁₂
  refine wpAny_execs_cons ?_
  refine do_append (T := R) (by rfl) (by rfl) (by rfl) (by rfl) (fun Q' q => x₁₂.ld rfl rfl ((hm₉ _ (by decide) (by decide)).trans eR) q) hR₁₂ ?_
  refine x₁₂.ld rfl rfl ((hm₉ _ (by decide) (by decide)).trans rfl) ?_
  refine ⟨rs, hR₁₂, hrs, fun h₁₃ hR₁₃ hs₁₃ => ?_⟩
  have c₁₃ : Ch R ({ s₁₀ with heap := h₁₂ } : Shared) { s₁₀ with heap := h₁₃ } := ⟨_, s₁₀.toks, rfl, fun b o hb e => (hs₁₃.2 b hb).trans e⟩
  have x₁₃ := x₁₂.li hR₁₂.isList hR0 c₁₃
  refine wpAny_execs_nil ?_
  refine hQ _ m₉ _ t0 r jj t₉ x₁₃ ((hm₉ _ (by decide) (by decide)).trans eT) ((hm₉ _ (by decide) (by decide)).trans eR) (hT₁₂.at fun o e => c₁₃.up _ _ hTR e) hR₁₃ ?_ ?_ ?_ ?_ ?_
  · refine isList_at lt fun o e => c₁₃.up _ _ ?_ (c₁₂.up _ _ ?_ e)
    · have : R < s₁₀.heap.objs.size := isList_lt (lk10.plain (lkA.plain hR)).isList
      rw [ht0]; exact Nat.ne_of_gt this
    · have : T < s₁₀.heap.objs.size := isList_lt (lk10.plain (lkA.plain hT)).isList
      rw [ht0]; exact Nat.ne_of_gt this
  · have l1 := lk11.ints (lk10.ints (lk₉.ints lr₈))
    have n1 := ints_ne (by rw [show ((codesOf n).foldl deedR first5).length = 5 from deeds_len rfl]; decide) l1 (lkB.plain hT).isList aT
    have n2 := ints_ne (by rw [show ((codesOf n).foldl deedR first5).length = 5 from deeds_len rfl]; decide) l1 (lkB.plain hR).isList aR
    obtain ⟨vs, il, iv⟩ := l1
    exact ⟨vs, isList_at il fun o e => c₁₃.up _ _ n2 (c₁₂.up _ _ n1 e), iv⟩
  · have l1 := lk11.ints lj
    have n1 := ints_ne (by rw [(jd_in5 _ _).1]; decide) l1 (lkB.plain hT).isList aT
    have n2 := ints_ne (by rw [(jd_in5 _ _).1]; decide) l1 (lkB.plain hR).isList aR
    obtain ⟨vs, il, iv⟩ := l1
    exact ⟨vs, isList_at il fun o e => c₁₃.up _ _ n2 (c₁₂.up _ _ n1 e), iv⟩
  · intro b o h1 h2 e d
    exact c₁₃.up _ _ h2 (c₁₂.up _ _ h1 (lkB b o e d))
  · intro b o h1 h2 h3 h4 h5 e
    exact c₁₃.up _ _ h2 (c₁₂.up _ _ h1 (kup k₁₁ _ _ (KX.d k₁₀.d b o h3 h4 h5 (kxA b o h3 h4 h5 e))))
end
end Mine
end

section
open PySem PySem.W PySem.Calls PyProof.Rows
set_option maxRecDepth 100000
set_option linter.unusedVariables false
namespace Mine
theorem list3_ne {h : Heap} {l X : Addr} {a b : Value} {k : Int} {t : Tok} {vs : Array Value} (ll : h.IsList l #[a, b, .int k t]) (il : h.IsList X vs) (hv : ∀ (i : Nat) (v : Value), vs[i]? = some v → ∃ a, v = Value.ref a) : l ≠ X := by
  rintro rfl
  obtain ⟨o1, g1, _, _, d1⟩ := ll
  obtain ⟨o2, g2, _, _, d2⟩ := il
  rw [g1] at g2; cases g2
  rw [d1] at d2
  injection d2 with d2 _
  subst d2
  obtain ⟨a, ea⟩ := hv 2 (Value.int k t) rfl
  cases ea
/-- the first i rows are told -/
noncomputable def Told (h : Heap) (T R : Addr) (ns : List Int) (i : Nat) : Prop := ∃ ts rs : Array Value, h.PlainList T ts ∧ h.PlainList R rs ∧ ts.size = i ∧ rs.size = i ∧
  ∀ k < i, ∃ t r j tm, ts[k]? = some (.ref t) ∧ rs[k]? = some (.ref r) ∧ h.IsList t #[.ref r, .ref j, .int (timesN (List.getD ns k 0)) tm] ∧ LInts h r (rowN (ns.getD k 0)) ∧ LInts h j (joinN (ns.getD k 0))
theorem Told.refsT {i : Nat} {ts : Array Value} {p : Nat → Addr → Prop} (hs : ts.size = i) (H : ∀ k < i, ∃ t, ts[k]? = some (Value.ref t) ∧ p k t) : ∀ (k : Nat) (v : Value), ts[k]? = some v → ∃ a, v = Value.ref a := fun k v e => by
  have hk : k < ts.size := (Array.getElem?_eq_some_iff.mp e).1
  obtain ⟨t, et, _⟩ := H k (hs ▸ hk)
  rw [e] at et; cases et; exact ⟨_, rfl⟩
theorem rowN_len (n : Int) : (rowN n).length = 5 := deeds_len rfl
theorem joinN_len (n : Int) : (joinN n).length = 5 := (jd_in5 _ 3).1
/-- what keeps the lists but T and R keeps what is told -/
theorem told_keep {h h' : Heap} {T R : Addr} {ns : List Int} {i : Nat} {ts rs : Array Value} (hT : h.PlainList T ts) (hR : h.PlainList R rs) (st : ts.size = i) (sr : rs.size = i)
    (H : ∀ k < i, ∃ t r j tm, ts[k]? = some (.ref t) ∧ rs[k]? = some (.ref r) ∧ h.IsList t #[.ref r, .ref j, .int (timesN (List.getD ns k 0)) tm] ∧ LInts h r (rowN (ns.getD k 0)) ∧ LInts h j (joinN (ns.getD k 0)))
    (keep : ∀ b o, b ≠ T → b ≠ R → h.get? b = some o → (∃ vs n, o.data = .seq vs n) → h'.get? b = some o) :
    ∀ k < i, ∃ t r j tm, ts[k]? = some (.ref t) ∧ rs[k]? = some (.ref r) ∧ h'.IsList t #[.ref r, .ref j, .int (timesN (List.getD ns k 0)) tm] ∧ LInts h' r (rowN (ns.getD k 0)) ∧ LInts h' j (joinN (ns.getD k 0)) := by
  have aT := Told.refsT (p := fun _ _ => True) st fun k hk => let ⟨t, _, _, _, e, _⟩ := H k hk; ⟨t, e, trivial⟩
  have aR := Told.refsT (p := fun _ _ => True) sr fun k hk => let ⟨_, r, _, _, _, e, _⟩ := H k hk; ⟨r, e, trivial⟩
  have lst : ∀ {l : Addr} {vs : Array Value}, h.IsList l vs → l ≠ T → l ≠ R → h'.IsList l vs := fun il n1 n2 => let ⟨o, e, c, n, d⟩ := il; ⟨o, keep _ _ n1 n2 e ⟨_, _, d⟩, c, n, d⟩
  have li : ∀ {l : Addr} {ms : List Int}, ms.length = 5 → LInts h l ms → LInts h' l ms := fun h5 ll => by
    have n1 := ints_ne (by rw [h5]; decide) ll hT.isList (aT 0)
    have n2 := ints_ne (by rw [h5]; decide) ll hR.isList (aR 0)
    obtain ⟨vs, il, r⟩ := ll
    exact ⟨vs, lst il n1 n2, r⟩
  intro k hk
  obtain ⟨t, r, j, tm, e1, e2, e3, e4, e5⟩ := H k hk
  exact ⟨t, r, j, tm, e1, e2, lst e3 (list3_ne e3 hT.isList aT) (list3_ne e3 hR.isList aR), li (rowN_len _) e4, li (joinN_len _) e5⟩
section
variable {w : World} {A : Around} {E : Value → Shared → Prop} {s : Shared}
theorem told_loop {L : Addr} {s₀ : Shared} {m cm : Str → Option Value} {T R l : Addr} {ns : List Int} {Q : Flow → Shared → Prop} (hA : Ar 13 A) (X₀ : TG w s₀.heap) (x : Fn s₀ (toldE L) m cm s)
    (en : m "numbers" = some (.ref l)) (eT : m "told" = some (.ref T)) (eR : m "rows" = some (.ref R)) (hT : s.heap.PlainList T #[]) (hR : s.heap.PlainList R #[]) (hTR : T ≠ R) (hT0 : s₀.heap.objs.size ≤ T) (hR0 : s₀.heap.objs.size ≤ R)
    (hl : LInts s.heap l ns) (hn : ns.length ≤ 1000) (hlT : l ≠ T) (hlR : l ≠ R)
    (hQ : ∀ s' m' cm', Fn s₀ (toldE L) m' cm' s' → m' "told" = some (.ref T) → m' "rows" = some (.ref R) → Told s'.heap T R ns ns.length → Q .next s') :
    wpAny (model prg w) A (exec tFor (toldE L)) Q E s := by
  refine wpAny_For ?_
  obtain ⟨vl, il, iv⟩ := hl
  have hvl := iv.length
  refine x.ld rfl rfl en ?_
  refine iterF_list il _ _ fun o St W ho st0 => ?_
  have W' := W A hA.hh
  have kp : Keeps s { s with heap := s.heap.push o } := ⟨_, _, rfl, up_push _ _⟩
  have hI0 : s₀.heap.objs.size ≤ s.heap.objs.size := Nat.le_trans x.fresh (Nat.le_of_lt x.ns.lt)
  refine for_gen W' (fun i s' => ∃ m cm ts rs, Fn s₀ (toldE L) m cm s' ∧ m "told" = some (.ref T) ∧ m "rows" = some (.ref R) ∧ s'.heap.PlainList T ts ∧ s'.heap.PlainList R rs ∧ ts.size = i ∧ rs.size = i ∧ s'.heap.IsList l vl.toArray ∧
    ∀ k < i, ∃ t r j tm, ts[k]? = some (.ref t) ∧ rs[k]? = some (.ref r) ∧ s'.heap.IsList t #[.ref r, .ref j, .int (timesN (ns.getD k 0)) tm] ∧ LInts s'.heap r (rowN (ns.getD k 0)) ∧ LInts s'.heap j (joinN (ns.getD k 0))) ?_ ?_ ?_ ?_ ?_
  · rintro i s₁ h' tk ⟨m, cm, ts, rs, x₁, e1, e2, p1, p2, z1, z2, il1, H⟩ hst kk
    have ow := W'.own _ _ hst
    have lk : LK s₁.heap h' := fun b o e d => kk b o (by
      rintro rfl
      obtain ⟨o', vs, e', d', _⟩ := ow
      rw [e] at e'; cases e'
      obtain ⟨_, _, d⟩ := d
      rw [d] at d'; cases d') e
    exact ⟨m, cm, ts, rs, x₁.it ow hI0 ⟨_, _, rfl, kk⟩, e1, e2, lk.plain p1, lk.plain p2, z1, z2, lk.list il1, told_keep p1 p2 z1 z2 H fun b o _ _ e d => lk b o e d⟩
  · rintro i v s₁ hi hp ⟨m, cm, ts, rs, x₁, e1, e2, p1, p2, z1, z2, il1, H⟩ hst
    obtain ⟨n, tn, rfl, hn1, hn2⟩ : ∃ n t, v = Value.int n t ∧ i < ns.length ∧ ns.getD i 0 = n := by
      have hi' : i < ns.length := by omega
      obtain ⟨t, et⟩ := ints_getD iv hi'
      rw [List.getD_eq_getElem?_getD, hp] at et
      exact ⟨_, t, et, hi', rfl⟩
    refine wpAny_assign_Name ?_
    refine x₁.st rfl rfl fun s₂ x₂ c₂ => ?_
    have lk2 : LK s₁.heap s₂.heap := LK.ns x₁.ns c₂
    have H2 := told_keep p1 p2 z1 z2 H fun b o _ _ e d => lk2 b o e d
    have aT := Told.refsT (p := fun _ _ => True) z1 fun k hk => let ⟨t, _, _, _, e, _⟩ := H k hk; ⟨t, e, trivial⟩
    have aR := Told.refsT (p := fun _ _ => True) z2 fun k hk => let ⟨_, r, _, _, _, e, _⟩ := H k hk; ⟨r, e, trivial⟩
    refine told_turn (n := n) hA X₀ x₂ rfl e1 e2 (lk2.plain p1) (lk2.plain p2) hTR hT0 hR0 (by omega) (by omega) (aT 0) (aR 0) fun s₃ m₃ cm₃ t r j tm x₃ f1 f2 q1 q2 q3 q4 q5 kp3 kq3 => ?_
    have H3 := told_keep (lk2.plain p1) (lk2.plain p2) z1 z2 H2 kp3
    refine ⟨⟨m₃, cm₃, ts.push (.ref t), rs.push (.ref r), x₃, f1, f2, q1, q2, by simp [z1], by simp [z2], ?_, fun k hk => ?_⟩, ?_⟩
    · obtain ⟨ol, el, cl, nl, dl⟩ := lk2.list il1
      exact ⟨ol, kp3 _ _ hlT hlR el ⟨_, _, dl⟩, cl, nl, dl⟩
    · rcases Nat.lt_succ_iff_lt_or_eq.mp hk with hk | rfl
      · obtain ⟨t', r', j', tm', g1, g2, g3⟩ := H3 k hk
        refine ⟨t', r', j', tm', ?_, ?_, g3⟩
        · rw [Array.getElem?_push, if_neg (by omega)]; exact g1
        · rw [Array.getElem?_push, if_neg (by omega)]; exact g2
      · refine ⟨t, r, j, tm, ?_, ?_, by rw [hn2]; exact q3, by rw [hn2]; exact q4, by rw [hn2]; exact q5⟩
        · rw [Array.getElem?_push, if_pos (by omega)]
        · rw [Array.getElem?_push, if_pos (by omega)]
    · refine W'.frame _ _ _ hst fun b hb o e hd => ?_
      have nI : ∀ {X : Addr}, (∃ vs, s₁.heap.PlainList X vs) → s.heap.objs.size ≠ X := fun ⟨vs, px⟩ => by
        rintro rfl
        obtain ⟨o', vs', e', d', _⟩ := W'.own _ _ hst
        obtain ⟨n', px⟩ := px
        rw [px] at e'; cases e'; cases d'
      have n113 : s.heap.objs.size ≠ 113 := Nat.ne_of_gt (Nat.lt_of_lt_of_le x.hi hI0)
      have nL : s.heap.objs.size ≠ L := Nat.ne_of_gt x.ns.lt
      have nL1 : s.heap.objs.size ≠ L + 1 := by
        obtain ⟨o', e', _⟩ := x.cell (Str.ofString "first") (L + 1) rfl
        exact Nat.ne_of_gt (Heap.lt_size e')
      simp only [List.mem_cons, List.not_mem_nil, or_false] at hb
      rcases hb with rfl | rfl
      · exact kq3 _ _ (nI ⟨_, p1⟩) (nI ⟨_, p2⟩) n113 nL nL1 (c₂.up _ _ nL e)
      · obtain ⟨o', e', _, n', d'⟩ := il1
        rw [e] at e'; cases e'
        exact kp3 _ _ hlT hlR (lk2 _ _ e ⟨_, _, d'⟩) ⟨_, _, d'⟩
  · rintro s₁ ⟨m, cm, ts, rs, x₁, e1, e2, p1, p2, z1, z2, il1, H⟩
    rw [hvl] at z1 z2
    exact hQ s₁ m cm x₁ e1 e2 ⟨ts, rs, p1, p2, z1, z2, fun k hk => H k (by rw [hvl]; exact hk)⟩
  · have lk : LK s.heap (s.heap.push o) := LK.up (up_push _ _)
    exact ⟨m, cm, #[], #[], x.to (KS.of_keeps kp), eT, eR, lk.plain hT, lk.plain hR, rfl, rfl, lk.list il, fun k hk => absurd hk (Nat.not_lt_zero _)⟩
  · exact st0
end
end Mine
end

section
open PySem PySem.W PySem.Calls PyProof.Rows
set_option maxRecDepth 100000
set_option linter.unusedVariables false
namespace Mine
noncomputable def dueF : FuncData := fnD 16 (.ref 134) .none (.str (Str.ofString "law_pe0222_01") 2239) 3 .none 0
noncomputable def dueE (L : Addr) : Env := callEnvC dueF L 135
noncomputable def dFor : Stmt := (bodyAt 16).getD 3 (.Pass default)
noncomputable def dB : List Stmt := match dFor with | .For _ _ b _ _ => b | _ => []
/-- all kept but for the frame's own -/
noncomputable def KD (L : Addr) (h h' : Heap) : Prop := ∀ b o, b ≠ L → b ≠ L + 1 → b ≠ L + 2 → b ≠ L + 3 → h.get? b = some o → h'.get? b = some o
theorem KD.refl (L : Addr) (h : Heap) : KD L h h := fun _ _ _ _ _ _ e => e
theorem KD.trans {L : Addr} {h h' h'' : Heap} (x : KD L h h') (y : KD L h' h'') : KD L h h'' := fun b o a0 a1 a2 a3 e => y b o a0 a1 a2 a3 (x b o a0 a1 a2 a3 e)
theorem KD.up {L : Addr} {h h' : Heap} (k : Up h h') : KD L h h' := fun b o _ _ _ _ e => k b o e
theorem KD.ch0 {L : Addr} {s s' : Shared} (c : Ch L s s') : KD L s.heap s'.heap := fun b o a0 _ _ _ e => c.up b o a0 e
theorem KD.ch1 {L : Addr} {s s' : Shared} (c : Ch (L + 1) s s') : KD L s.heap s'.heap := fun b o _ a1 _ _ e => c.up b o a1 e
theorem KD.ch2 {L : Addr} {s s' : Shared} (c : Ch (L + 2) s s') : KD L s.heap s'.heap := fun b o _ _ a2 _ e => c.up b o a2 e
theorem KD.ch3 {L : Addr} {s s' : Shared} (c : Ch (L + 3) s s') : KD L s.heap s'.heap := fun b o _ _ _ a3 e => c.up b o a3 e
theorem KD.new {L a : Addr} {h h' h'' : Heap} (x : KD L h h') (n : h.get? a = none) (k : ∀ b o, b ≠ a → h'.get? b = some o → h''.get? b = some o) : KD L h h'' := fun b o a0 a1 a2 a3 e => k b o (by rintro rfl; rw [n] at e; cases e) (x b o a0 a1 a2 a3 e)
noncomputable def lettersN : List (List Nat) := [[102], [102], [102, 102], [102, 105], [102, 108], [102, 102, 105], [102, 102, 108], [115, 116], [115, 115], [115], [115], [116], [105], []]
noncomputable def lettr (n : Int) (k : Nat) : List Nat := lettersN.getD (dig n k) []
noncomputable def wordN (n : Int) : List Nat := lettr n 0 ++ lettr n 1 ++ lettr n 2
noncomputable def LStr (h : Heap) (a : Addr) (xs : List (List Nat)) : Prop := ∃ vs : List Value, h.IsList a vs.toArray ∧ vs.length = xs.length ∧ ∀ (i : Nat) x, xs[i]? = some x → ∃ t, vs[i]? = some (.str ⟨x.toArray⟩ t)
theorem LStr.at {h h' : Heap} {a : Addr} {xs : List (List Nat)} (x : LStr h a xs) (k : ∀ o, h.get? a = some o → h'.get? a = some o) : LStr h' a xs := let ⟨vs, i, r⟩ := x; ⟨vs, isList_at i k, r⟩
theorem join_ok {a b c : List Nat} (h0 : a.length ≤ 3) (h1 : b.length ≤ 3) (h2 : c.length ≤ 3) : JoinOk (Str.ofString "") [⟨a.toArray⟩, ⟨b.toArray⟩, ⟨c.toArray⟩] = true := by
  show (!Builtin.Str.tooLong (0 + a.toArray.size + 0 + b.toArray.size + 0 + c.toArray.size + 0)) = true
  simp only [List.size_toArray, Builtin.Str.tooLong, sizeLine_eq]
  simp
  omega
theorem join_eq (a b c : List Nat) : Txt.join (Str.ofString "") [⟨a.toArray⟩, ⟨b.toArray⟩, ⟨c.toArray⟩] = ⟨(a ++ b ++ c).toArray⟩ := by
  show (⟨a.toArray ++ #[] ++ b.toArray ++ #[] ++ c.toArray⟩ : Str) = _
  simp
section
variable {w : World} {A : Around} {E : Value → Shared → Prop} {s s₀ : Shared} {L : Addr} {m cm : Str → Option Value}
theorem due_word {lt : Addr} {n : Int} {t : Tok} {Q : Flow → Shared → Prop} (hA : Ar 3 A) (X₀ : TG w s₀.heap) (x : Fn s₀ (dueE L) m cm s) (e1 : cm "letters" = some (.ref lt)) (e2 : cm "n" = some (.int n t)) (hl : LStr s.heap lt lettersN)
    (hQ : ∀ s' t', Fn s₀ (dueE L) (fun y => if y = "word" then some (.str ⟨(wordN n).toArray⟩ t') else m y) cm s' → KD L s.heap s'.heap → Q .next s') :
    wpAny (model prg w) A (exec (dB.getD 0 (.Pass default)) (dueE L)) Q E s := by
  have X := X₀.d x.ks.d
  refine wpAny_Assign_Name ?_
  refine Call_method1 (by rfl) (by rfl) (by rfl) (wpAny_Constant_str (SB.join ?_))
  refine comp_gen (s₁ := { s with heap := s.heap.push { cls := .type "range", data := .fields #[.int 0 (s.toks + 1 + 1), .int 3 (s.toks + 1), .int 1 (s.toks + 1 + 1 + 1)] }, toks := s.toks + 1 + 1 + 1 + 1 }) (xv := .ref s.heap.objs.size) (n := 3) (P := IntAt 3)
    (fun v y => ∃ (i : Nat) (t u : Tok), v = Value.int i t ∧ y = Value.str ⟨(lettr n i).toArray⟩ u) (by rfl) (by decide) (by rfl) (by decide) (by decide) hA.hh (by decide) ?_ ?_ ?_ ?_
  · intro Q' q
    refine Call_ (bname (s := { s with toks := s.toks + 1 }) X.1 (by kernel_rfl) boot_range (by decide) rfl rfl rfl rfl ?_)
    refine tcall (spliced_more (wpAny_Constant_int (spliced_none ?_)))
    exact call_range_1 q
  · exact iter_range (Heap.get?_push_size _ rfl) (by decide)
  · intro C i v s₃ m₃ E' hC hP hns hm hk
    obtain ⟨hi, ti, rfl⟩ := hP
    have u3 : Up s.heap s₃.heap := fun b o e => hk b o (up_push _ _ _ _ e)
    have cn : s.heap.IsCell (L + 2) (some (.int n t)) := e2 ▸ x.cell (Str.ofString "n") _ rfl
    have cc : s.heap.IsCell (L + 1) (some (.ref lt)) := e1 ▸ x.cell (Str.ofString "letters") _ rfl
    have l3 : LStr s₃.heap lt lettersN := hl.at fun o e => u3 _ _ e
    have X₃ := X.1.keeps u3
    refine Subscript_ ?_
    refine wpAny_Name (wpAny_loadName_cell (c := L + 1) rfl rfl rfl (cc.keeps u3) ?_)
    refine wpAny_BinOp ?_
    refine wpAny_BinOp ?_
    refine wpAny_Name (wpAny_loadName_cell (c := L + 2) rfl rfl rfl (cn.keeps u3) ?_)
    refine wpAny_BinOp ?_
    refine wpAny_Constant_int ?_
    refine wpAny_Name (wpAny_loadName_local rfl rfl hns hm ?_)
    refine pow_int_small (by omega) (by omega) (by decide) ?_
    refine floordiv_int ?_ ?_ ?_
    · exact (pow14 hi).1
    · refine wpAny_Constant_int ?_
      refine mod_int' (by decide) ?_
      obtain ⟨vs', il, hlen, iv⟩ := l3
      have hd := dig_lt n i
      have e14 : (n.fdiv (14 ^ (i : Int).toNat)).fmod 14 = dig n i := by
        have h1 := Int.fmod_nonneg_of_pos (n.fdiv (14 ^ (i : Int).toNat)) (b := 14) (by decide)
        exact (Int.toNat_of_nonneg h1).symm
      have hlen : vs'.length = 14 := hlen
      rw [e14]
      refine item_list il (by omega) (by rw [hlen]; omega) (by omega) ?_
      obtain ⟨tt, et⟩ := iv (dig n i) (lettr n i) (getD_some _ hd)
      have et' : vs'.getD ((dig n i : Nat) : Int).toNat .none = .str ⟨(lettr n i).toArray⟩ tt := by
        rw [List.getD_eq_getElem?_getD, Int.toNat_natCast, et]; rfl
      rw [et']
      exact ⟨⟨i, ti, _, rfl, rfl⟩, _, _, rfl, fun b o e => e⟩
    · exact Or.inl (PyProof.noPylong_small (pow14 hi).2)
  · intro D h' tk ys vs hD hl' hlen hP hF hk
    obtain ⟨u0, u1, u2, rfl⟩ := paired_three (g := fun i => ⟨(lettr n i).toArray⟩) hF hlen hP
    have h3 : ∀ i, (lettr n i).length ≤ 3 := fun i => (by decide : ∀ k < 14, (lettersN.getD k []).length ≤ 3) _ (dig_lt n i)
    refine ⟨D, _, rfl, hl', _, rfl, ?_, fun t' k => ?_⟩
    · exact join_ok (h3 0) (h3 1) (h3 2)
    rw [show Txt.join (Str.ofString "") (List.map (fun x => x.fst) [(({ cps := (lettr n 0).toArray } : Str), u0), ({ cps := (lettr n 1).toArray }, u1), ({ cps := (lettr n 2).toArray }, u2)]) = ⟨(wordN n).toArray⟩ from join_eq _ _ _]
    refine (x.to (KS.of_keeps ⟨h', _, rfl, fun b o e => hk b o (up_push _ _ _ _ e)⟩)).st (n := Str.ofString "word") rfl (by rfl) fun s' x' c' => ?_
    exact hQ s' t' x' ((KD.up (h' := h') fun b o e => hk b o (up_push _ _ _ _ e)).trans (KD.ch0 c'))
end
end Mine
end

section
open PySem PySem.W PySem.Calls PyProof.Rows
set_option maxRecDepth 100000
set_option linter.unusedVariables false
namespace Mine
noncomputable def stepP (p : Int) (c : Nat) : Int := (mv c).getD p.toNat 0
noncomputable def rowD (wd : List Nat) : List Int := first5.map fun p => wd.reverse.foldl stepP p
theorem stepP_in {p : Int} {c : Nat} (h : 0 ≤ p ∧ p < 5) : 0 ≤ stepP p c ∧ stepP p c < 5 := by
  unfold stepP
  have hl := (mv_ok c).1
  have : p.toNat < (mv c).length := by omega
  rw [List.getD_eq_getElem?_getD, List.getElem?_eq_getElem this]
  exact (mv_ok c).2 _ (List.getElem_mem _)
theorem sliceBy_rev (l : List Nat) (u : Tok) : Txt.sliceBy ⟨l.toArray⟩ none none (-1, u) = ⟨l.reverse.toArray⟩ := by
  have h := step_rev_list ⟨l.toArray⟩ u
  have e : (List.range (Str.length ⟨l.toArray⟩)).map (fun k => (l.toArray).getD (Str.length ⟨l.toArray⟩ - 1 - k) 0) = l.reverse := by
    have hl : Str.length ⟨l.toArray⟩ = l.length := by simp [Str.length]
    rw [hl]
    apply List.ext_getElem
    · simp
    · intro i h1 h2
      have hi : i < l.length := by simpa using h1
      simp only [List.getElem_map, List.getElem_range, List.getElem_reverse]
      have : l.length - 1 - i < l.length := by omega
      simp [Array.getD, this]
  generalize Txt.sliceBy ⟨l.toArray⟩ none none (-1, u) = z at h
  obtain ⟨c⟩ := z
  have h2 : c.toList = l.reverse := h.trans e
  rw [← h2]
noncomputable def dRow : Stmt := dB.getD 2 (.Pass default)
noncomputable def dRowB : List Stmt := match dRow with | .For _ _ b _ _ => b | _ => []
noncomputable def dIn : Stmt := dRowB.getD 0 (.Pass default)
section
variable {w : World} {A : Around} {E : Value → Shared → Prop} {s s₀ : Shared} {L : Addr} {m cm : Str → Option Value}
theorem itemI {l : Addr} {ns : List Int} {i : Nat} {t : Tok} {value slice : PySem.Expr} {Q : Value → Shared → Prop} (hl : LInts s.heap l ns) (hi : i < ns.length) (hn : ns.length ≤ 100) (h : ∀ u, Q (.int (ns.getD i 0) u) s)
    (hs : subscripted slice false (.ref l) (.int (i : Int) t) = operate [.ref l, .int (i : Int) t] (getItem (.ref l) (.int (i : Int) t)) := by with_unfolding_all rfl) :
    wpAny (model prg w) A (subscriptTail value slice (.ref l) (.int (i : Int) t)) Q E s := by
  obtain ⟨vs, il, iv⟩ := hl
  have e := iv.length
  refine item_list il (by omega) (by rw [e]; omega) (by omega) ?_ hs
  obtain ⟨tt, et⟩ := ints_getD iv (k := ((i : Nat) : Int).toNat) (by rw [Int.toNat_natCast]; exact hi)
  rw [et, Int.toNat_natCast]
  exact h tt
theorem rev_str {value slice : PySem.Expr} {x : Str} {t uk : Tok} {Q : Value → Shared → Prop} (hsz : x.length ≤ 1000)
    (h : ∀ t' c, Q (.str (Txt.sliceBy x none none (-1, uk)) t') { s with heap := s.heap.push { cls := .type "slice", data := .fields #[.none, .none, .int (-1) uk] }, toks := c })
    (hs : subscripted slice false (.str x t) (.ref s.heap.objs.size) = operate [.ref s.heap.objs.size, .str x t] (getItem (.str x t) (.ref s.heap.objs.size)) := by with_unfolding_all rfl)
    (ht : ∀ r, letTemporaryGo value (.str x t) r = pure () := by intro _; with_unfolding_all rfl) :
    wpAny (model prg w) A (subscriptTail value slice (.str x t) (.ref s.heap.objs.size)) Q E { s with heap := s.heap.push { cls := .type "slice", data := .fields #[.none, .none, .int (-1) uk] } } :=
  tail_of_ItemOn ⟨"str", _, PySem.F.slot_str_getitem.lookup, typeIs_str _ _ _, wpAny_getItem_str_slice (l := none) (u := none) (st := some (-1, uk)) ⟨_, Heap.get?_push_size _ rfl, rfl, rfl⟩ (by rfl)
    (post_val_or_str ⟨by rw [sizeLine_eq]; exact Nat.le_trans (Txt.sliceBy_le x _ _ (-1, uk) (by simp)) (by omega), fun t' c => h t' c⟩)⟩ hs ht
theorem due_in {wd : List Nat} {p : Int} {t u : Tok} {Q : Flow → Shared → Prop} (hA : Ar 5 A) (X₀ : TG w s₀.heap) (x : Fn s₀ (dueE L) m cm s) (hI0 : s₀.heap.objs.size ≤ s.heap.objs.size) (e1 : m "word" = some (.str ⟨wd.toArray⟩ t)) (e2 : m "place" = some (.int p u)) (hp : 0 ≤ p ∧ p < 5) (hw : ∀ c ∈ wd, c ∈ letters5) (hl : wd.length ≤ 100)
    (hQ : ∀ s' m' u', Fn s₀ (dueE L) m' cm s' → KD L s.heap s'.heap → m' "place" = some (.int (wd.reverse.foldl stepP p) u') → (∀ y : Str, y ≠ "place" → y ≠ "letter" → m' y = m y) → Q .next s') :
    wpAny (model prg w) A (exec dIn (dueE L)) Q E s := by
  have X := X₀.d x.ks.d
  refine wpAny_For ?_
  refine Subscript_ (x.ld rfl rfl e1 ?_)
  refine wpAny_Slice (wpAny_evalPart_none (wpAny_evalPart_none (wpAny_evalPart_some ?_)))
  refine wpAny_UnaryOp (wpAny_Constant_int (PyProof.Rows.neg_int ?_))
  refine rev_str (s := { s with toks := s.toks + 1 + 1 }) (by simp [Str.length]; omega) fun t' c => ?_
  rw [sliceBy_rev]
  refine iterF_str _ _ fun o St W ho st0 => ?_
  have W' := W A hA.hh
  have hI : s₀.heap.objs.size ≤ (s.heap.push { cls := .type "slice", data := .fields #[.none, .none, .int (-1) (s.toks + 1)] }).objs.size := by
    rw [Heap.size_push]; exact Nat.le_succ_of_le hI0
  have hIn : s.heap.get? (s.heap.push { cls := .type "slice", data := .fields #[.none, .none, .int (-1) (s.toks + 1)] }).objs.size = none := none_size _ (by rw [Heap.size_push]; exact Nat.le_succ _)
  generalize hIe : (s.heap.push _).objs.size = I at *
  have hn : (wd.reverse.toArray).size = wd.length := by simp
  refine for_gen W' (fun i s' => ∃ m' u', Fn s₀ (dueE L) m' cm s' ∧ KD L s.heap s'.heap ∧ m' "place" = some (.int ((wd.reverse.take i).foldl stepP p) u') ∧ (∀ y : Str, y ≠ "place" → y ≠ "letter" → m' y = m y)) ?_ ?_ ?_ ?_ ?_
  · rintro i s₁ h' tk ⟨m', u', x₁, kd, e3, e4⟩ hst kk
    exact ⟨m', u', x₁.it (W'.own _ _ hst) hI ⟨_, _, rfl, kk⟩, kd.new hIn kk, e3, e4⟩
  · rintro i v s₁ hi ⟨c, uc, hc, rfl⟩ ⟨m', u', x₁, kd, e3, e4⟩ hst
    have hc' : wd.reverse[i]? = some c := by simpa using hc
    have hcw : c ∈ letters5 := hw c (List.mem_reverse.mp (List.mem_of_getElem? hc'))
    have hp' : 0 ≤ (wd.reverse.take i).foldl stepP p ∧ (wd.reverse.take i).foldl stepP p < 5 := by
      generalize wd.reverse.take i = l
      revert hp
      generalize p = q
      induction l generalizing q with
      | nil => exact id
      | cons a l ih => intro hq; exact ih _ (stepP_in hq)
    refine wpAny_assign_Name ?_
    refine x₁.st rfl rfl fun s₂ x₂ c₂ => ?_
    have X₂ := X₀.d x₂.ks.d
    refine wpAny_execs_cons ?_
    refine wpAny_Assign_Name ?_
    refine Subscript_ (Subscript_ (Call_ (gname (v := .ref 106) X₂.1 (by kernel_rfl) rfl rfl rfl ?_)))
    refine callWith_K0 (K := K w.params) X₂.1.k (by kernel_rfl) ?_
    refine moves_spec (hA.le (by decide)) X₂.1 fun d s₃ hd k₃ M₃ => ?_
    have x₃ := x₂.to (KS.of_keeps k₃)
    refine x₃.ld rfl rfl (by rfl) ?_
    obtain ⟨kvs, dk, fs⟩ := M₃
    obtain ⟨a, ea, la⟩ := fs c hcw
    have hm := dk.mapOf
    refine tail_any hm.typeIs slot_dict_getitem.lookup (wpAny_getItem_of (strKind_is _ _ _ _) hm ea ?_) (by with_unfolding_all rfl)
    have x₃' : Fn s₀ (dueE L) _ cm { s₃ with toks := s₃.toks + 1 } := x₃.to (KS.of_keeps ⟨_, _, rfl, fun b o e => e⟩)
    refine x₃'.ld (n := Str.ofString "place") rfl (by rfl) e3 ?_
    obtain ⟨q, hq⟩ : ∃ q : Nat, (wd.reverse.take i).foldl stepP p = (q : Int) := ⟨_, (Int.toNat_of_nonneg hp'.1).symm⟩
    rw [hq]
    have hm5 := (mv_ok c).1
    refine itemI la (by omega) (by omega) fun u2 => ?_
    refine x₃'.st (n := Str.ofString "place") rfl (by rfl) fun s₄ x₄ c₄ => ?_
    have kd₄ : KD L s₁.heap s₄.heap := (KD.ch0 c₂).trans ((KD.up (kup k₃)).trans (KD.ch0 c₄))
    refine wpAny_execs_nil ⟨⟨_, u2, x₄, kd.trans kd₄, ?_, fun y h1 h2 => ?_⟩, ?_⟩
    · show some (Value.int ((mv c).getD q 0) u2) = _
      rw [List.take_add_one, hc']
      simp only [Option.toList_some, List.foldl_append, List.foldl_cons, List.foldl_nil, hq, stepP, Int.toNat_natCast]
    · show (if y = "place" then _ else if y = "letter" then _ else m' y) = _
      rw [if_neg h1, if_neg h2]; exact e4 y h1 h2
    · refine W'.frame _ _ _ hst fun b hb o e hd => ?_
      have nL : b ≠ L := by
        rintro rfl
        obtain ⟨o', es, ep, e', d', _⟩ := x₁.ns
        have e' : s₁.heap.get? b = some o' := e'
        rw [e] at e'; cases e'
        rcases hd with ⟨vs, hd⟩ | ⟨vs, n, hd⟩ <;> (rw [hd] at d'; cases d')
      exact c₄.up _ _ nL (kup k₃ _ _ (c₂.up _ _ nL e))
  · rintro s₁ ⟨m', u', x₁, kd, e3, e4⟩
    have e3' := e3
    rw [hn, List.take_of_length_le (by simp)] at e3'
    exact hQ s₁ m' u' x₁ kd e3' e4
  · exact ⟨m, u, x.to (KS.of_keeps ⟨_, _, rfl, fun b o e => up_push _ _ _ _ (up_push _ _ _ _ e)⟩), KD.up fun b o e => up_push _ _ _ _ (up_push _ _ _ _ e), e2, fun _ _ _ => rfl⟩
  · exact st0
end
end Mine
end

section
open PySem PySem.W PySem.Calls PyProof.Rows
set_option maxRecDepth 100000
set_option linter.unusedVariables false
namespace Mine
/-- all kept but for the frame's own and the list r -/
noncomputable def KR (L r : Addr) (h h' : Heap) : Prop := ∀ b o, b ≠ r → b ≠ L → b ≠ L + 1 → b ≠ L + 2 → b ≠ L + 3 → h.get? b = some o → h'.get? b = some o
theorem KR.refl (L r : Addr) (h : Heap) : KR L r h h := fun _ _ _ _ _ _ _ e => e
theorem KR.trans {L r : Addr} {h h' h'' : Heap} (x : KR L r h h') (y : KR L r h' h'') : KR L r h h'' := fun b o n a0 a1 a2 a3 e => y b o n a0 a1 a2 a3 (x b o n a0 a1 a2 a3 e)
theorem KR.of {L r : Addr} {h h' : Heap} (x : KD L h h') : KR L r h h' := fun b o _ a0 a1 a2 a3 e => x b o a0 a1 a2 a3 e
theorem KR.ch {L r : Addr} {s s' : Shared} (c : Ch r s s') : KR L r s.heap s'.heap := fun b o n _ _ _ _ e => c.up b o n e
theorem KR.new {L r a : Addr} {h h' h'' : Heap} (x : KR L r h h') (n : h.get? a = none) (k : ∀ b o, b ≠ a → h'.get? b = some o → h''.get? b = some o) : KR L r h h'' := fun b o n0 a0 a1 a2 a3 e => k b o (by rintro rfl; rw [n] at e; cases e) (x b o n0 a0 a1 a2 a3 e)
theorem KR.fresh {L r : Addr} {h h' h'' : Heap} (x : KD L h h') (n : h.get? r = none) (y : KR L r h' h'') : KD L h h'' := fun b o a0 a1 a2 a3 e => y b o (by rintro rfl; rw [n] at e; cases e) a0 a1 a2 a3 (x b o a0 a1 a2 a3 e)
theorem foldP_in {p : Int} {l : List Nat} (h : 0 ≤ p ∧ p < 5) : 0 ≤ l.foldl stepP p ∧ l.foldl stepP p < 5 := by
  revert h
  generalize p = q
  induction l generalizing q with
  | nil => exact id
  | cons a l ih => intro hq; exact ih _ (stepP_in hq)
theorem rowD_len (wd : List Nat) : (rowD wd).length = 5 := rfl
theorem rowD_take (wd : List Nat) {i : Nat} (hi : i < 5) : (rowD wd).take (i + 1) = (rowD wd).take i ++ [wd.reverse.foldl stepP (i : Int)] := by
  match i, hi with
  | 0, _ => rfl
  | 1, _ => rfl
  | 2, _ => rfl
  | 3, _ => rfl
  | 4, _ => rfl
theorem ints_snoc {vs : List Value} {ns : List Int} (h : IntsAre vs ns) (n : Int) (t : Tok) : IntsAre (vs ++ [.int n t]) (ns ++ [n]) := by
  induction h with
  | nil => exact .cons _ _ .nil
  | cons k u _ ih => exact .cons _ _ ih
theorem plain_at {h h' : Heap} {a : Addr} {vs : Array Value} (x : h.PlainList a vs) (k : ∀ o, h.get? a = some o → h'.get? a = some o) : h'.PlainList a vs := x.at k
section
variable {w : World} {A : Around} {E : Value → Shared → Prop} {s s₀ : Shared} {L : Addr} {m cm : Str → Option Value}
theorem ns_ne_plain {h : Heap} {a L : Addr} {vs : Array Value} (x : h.PlainList a vs) (y : h.Ns L m) : a ≠ L := list_ne_ns x.isList y
theorem range5 {p2 p3 p4 : Pos} {kk : Nat} {Q : Value → Shared → Prop} (X : Gl w s.heap) (n : Nat)
    (hQ : ∀ t u v c, IsRange (s.heap.push { cls := .type "range", data := .fields #[.int 0 t, .int n u, .int 1 v] }) s.heap.objs.size 0 n 1 t u v → Q (.ref s.heap.objs.size) { s with heap := s.heap.push { cls := .type "range", data := .fields #[.int 0 t, .int n u, .int 1 v] }, toks := c }) :
    wpAny (model prg w) A (eval (.Call (.Name (Str.ofString "range") p2) [.Constant (.int (n : Int)) kk p3] [] p4) (dueE L)) Q E s := by
  refine Call_ (bname X (by kernel_rfl) boot_range (by decide) rfl rfl rfl rfl ?_)
  refine tcall (spliced_more (wpAny_Constant_int (spliced_none ?_)))
  exact call_range_1 (hQ _ _ _ _ (Heap.get?_push_size _ rfl))
theorem due_row {wd : List Nat} {t : Tok} {r : Addr} {Q : Flow → Shared → Prop} (hA : Ar 5 A) (X₀ : TG w s₀.heap) (x : Fn s₀ (dueE L) m cm s) (e1 : m "word" = some (.str ⟨wd.toArray⟩ t)) (er : m "row" = some (.ref r)) (hr : s.heap.PlainList r #[]) (hr0 : s₀.heap.objs.size ≤ r) (hrc : ∀ n c, (dueE L).cells.lookup n = some c → r ≠ c)
    (hw : ∀ c ∈ wd, c ∈ letters5) (hl : wd.length ≤ 100)
    (hQ : ∀ s' m' vs, Fn s₀ (dueE L) m' cm s' → KR L r s.heap s'.heap → (∀ y : Str, y ≠ "place" → y ≠ "letter" → m' y = m y) → s'.heap.PlainList r vs → IntsAre vs.toList (rowD wd) → Q .next s') :
    wpAny (model prg w) A (exec dRow (dueE L)) Q E s := by
  have X := X₀.d x.ks.d
  refine wpAny_For ?_
  refine range5 X.1 5 fun t0 u0 v0 c0 hR => ?_
  refine iterF_range hR (by decide) _ _ fun o St W ho st0 => ?_
  have W' := W A hA.hh
  have hI0 : s₀.heap.objs.size ≤ s.heap.objs.size := Nat.le_trans x.fresh (Nat.le_of_lt x.ns.lt)
  have hI : s₀.heap.objs.size ≤ (s.heap.push { cls := .type "range", data := .fields #[.int 0 t0, .int (5 : Nat) u0, .int 1 v0] }).objs.size := by
    rw [Heap.size_push]; exact Nat.le_succ_of_le hI0
  have hIn : s.heap.get? (s.heap.push { cls := .type "range", data := .fields #[.int 0 t0, .int (5 : Nat) u0, .int 1 v0] }).objs.size = none := none_size _ (by rw [Heap.size_push]; exact Nat.le_succ _)
  have hrI : r ≠ (s.heap.push { cls := .type "range", data := .fields #[.int 0 t0, .int (5 : Nat) u0, .int 1 v0] }).objs.size := by
    rw [Heap.size_push]; exact Nat.ne_of_lt (Nat.lt_succ_of_lt (isList_lt hr.isList))
  generalize hIe : (s.heap.push _).objs.size = I at *
  refine for_gen W' (fun i s' => ∃ m' vs, Fn s₀ (dueE L) m' cm s' ∧ KR L r s.heap s'.heap ∧ (∀ y : Str, y ≠ "place" → y ≠ "letter" → m' y = m y) ∧ s'.heap.PlainList r vs ∧ IntsAre vs.toList ((rowD wd).take i)) ?_ ?_ ?_ ?_ ?_
  · rintro i s₁ h' tk ⟨m', vs, x₁, kd, hm, pl, iv⟩ hst kk
    exact ⟨m', vs, x₁.it (W'.own _ _ hst) hI ⟨_, _, rfl, kk⟩, kd.new hIn kk, hm, pl.at fun o e => kk _ _ hrI e, iv⟩
  · rintro i v s₁ hi ⟨_, t1, rfl⟩ ⟨m', vs, x₁, kd, hm, pl, iv⟩ hst
    refine wpAny_assign_Name ?_
    refine x₁.st rfl rfl fun s₂ x₂ c₂ => ?_
    have pl₂ : s₂.heap.PlainList r vs := pl.at fun o e => c₂.up _ _ (ns_ne_plain pl x₁.ns) e
    refine wpAny_execs_cons ?_
    refine due_in (wd := wd) (p := (i : Int)) hA X₀ x₂ (Nat.le_trans x₂.fresh (Nat.le_of_lt x₂.ns.lt)) ((hm _ (by decide) (by decide)).trans e1) rfl (by omega) hw hl fun s₃ m₃ u₃ x₃ kd₃ e₃ hm₃ => ?_
    have rne : r ≠ L ∧ r ≠ L + 1 ∧ r ≠ L + 2 ∧ r ≠ L + 3 := ⟨ns_ne_plain pl x₁.ns, hrc (Str.ofString "letters") _ rfl, hrc (Str.ofString "n") _ rfl, hrc (Str.ofString "rings") _ rfl⟩
    have pl₃ : s₃.heap.PlainList r vs := pl₂.at fun o e => kd₃ _ _ rne.1 rne.2.1 rne.2.2.1 rne.2.2.2 e
    refine wpAny_execs_cons ?_
    refine do_append (T := r) (by rfl) (by rfl) (by rfl) (by rfl) (fun Q' q => x₃.ld rfl rfl (((hm₃ _ (by decide) (by decide)).trans ((hm _ (by decide) (by decide)).trans er))) q) pl₃ ?_
    refine x₃.ld (n := Str.ofString "place") rfl (by rfl) e₃ ?_
    have hvs : vs.size = i := by
      have := iv.length
      simp [rowD_len] at this
      omega
    refine ⟨vs, pl₃, by omega, fun h₄ pl₄ sb₄ => ?_⟩
    have c₄ : Ch r s₃ { s₃ with heap := h₄ } := ⟨_, s₃.toks, rfl, fun b o hb e => (sb₄.2 b hb).trans e⟩
    have x₄ := x₃.li pl₃.isList hr0 c₄
    refine wpAny_execs_nil ⟨⟨m₃, _, x₄, ?_, fun y h1 h2 => ?_, pl₄, ?_⟩, ?_⟩
    · exact kd.trans ((KR.of ((KD.ch0 c₂).trans kd₃)).trans (KR.ch c₄))
    · rw [hm₃ y h1 h2]
      show (if y = "place" then _ else m' y) = _
      rw [if_neg h1]; exact hm y h1 h2
    · rw [rowD_take wd hi, Array.toList_push]
      exact ints_snoc iv _ _
    · refine W'.frame _ _ _ hst fun b hb o e hd => ?_
      simp only [List.not_mem_nil, or_false] at hb
      subst hb
      have fI := W'.own _ _ hst
      exact c₄.up _ _ (Ne.symm hrI) (kd₃ _ _ (fI.ne_ns x₁.ns).symm (fI.ne_cell (x₁.cell (Str.ofString "letters") (L + 1) rfl)).symm (fI.ne_cell (x₁.cell (Str.ofString "n") (L + 2) rfl)).symm (fI.ne_cell (x₁.cell (Str.ofString "rings") (L + 3) rfl)).symm (c₂.up _ _ (fI.ne_ns x₁.ns).symm e))
  · rintro s₁ ⟨m', vs, x₁, kd, hm, pl, iv⟩
    exact hQ s₁ m' vs x₁ kd hm pl iv
  · have u : Up s.heap ((s.heap.push { cls := .type "range", data := .fields #[.int 0 t0, .int (5 : Nat) u0, .int 1 v0] }).push o) := fun b o e => up_push _ _ _ _ (up_push _ _ _ _ e)
    exact ⟨m, #[], x.to (KS.of_keeps ⟨_, _, rfl, u⟩), KR.of (KD.up u), fun _ _ _ => rfl, hr.at fun o e => u _ _ e, .nil⟩
  · exact st0
end
end Mine
end

section
open PySem PySem.W PySem.Calls PyProof.Rows
set_option maxRecDepth 100000
set_option linter.unusedVariables false
namespace Mine
/-- how many more places till the ring closes -/
noncomputable def ringN (rw : List Int) (p : Int) : Nat → Int → Nat
  | 0, _ => 0
  | f + 1, l => if rw.getD l.toNat 0 = p then 0 else ringN rw p f (rw.getD l.toNat 0) + 1
noncomputable def closes (rw : List Int) (p : Int) : Nat → Int → Bool
  | 0, l => rw.getD l.toNat 0 == p
  | f + 1, l => rw.getD l.toNat 0 == p || closes rw p f (rw.getD l.toNat 0)
noncomputable def ringL (rw : List Int) (p : Int) : Int := ((1 + ringN rw p 4 p : Nat) : Int)
noncomputable def ringsL (rw : List Int) : List Int := first5.map (ringL rw)
noncomputable def isRow (rw : List Int) : Prop := rw.length = 5 ∧ (∀ x ∈ rw, 0 ≤ x ∧ x < 5) ∧ ∀ p ∈ first5, closes rw p 4 p = true
noncomputable def dRing : Stmt := dB.getD 4 (.Pass default)
noncomputable def dRingB : List Stmt := match dRing with | .For _ _ b _ _ => b | _ => []
noncomputable def dWhile : Stmt := dRingB.getD 1 (.Pass default)
section
variable {w : World} {A : Around} {E : Value → Shared → Prop} {s s₀ : Shared} {L : Addr} {m cm : Str → Option Value}
theorem Fn.ne4 (x : Fn s₀ (dueE L) m cm s) {a : Addr} {o : Obj} (e : s.heap.get? a = some o) (d : (∃ vs n, o.data = .seq vs n) ∨ (∃ vs, o.data = .fields vs)) : a ≠ L ∧ a ≠ L + 1 ∧ a ≠ L + 2 ∧ a ≠ L + 3 := by
  have nc : ∀ n c, (dueE L).cells.lookup n = some c → a ≠ c := by
    rintro n c hc rfl
    obtain ⟨o', e', d'⟩ := x.cell n a hc
    rw [e] at e'; cases e'
    rcases d with ⟨vs, n, d⟩ | ⟨vs, d⟩ <;> (rw [d] at d'; cases d')
  refine ⟨?_, nc (Str.ofString "letters") _ rfl, nc (Str.ofString "n") _ rfl, nc (Str.ofString "rings") _ rfl⟩
  rintro rfl
  obtain ⟨o', es, ep, e', d', _⟩ := x.ns
  have e' : s.heap.get? a = some o' := e'
  rw [e] at e'; cases e'
  rcases d with ⟨vs, n, d⟩ | ⟨vs, d⟩ <;> (rw [d] at d'; cases d')
theorem KR.get {g : Addr} {h' : Heap} (k : KR L g s.heap h') (x : Fn s₀ (dueE L) m cm s) {a : Addr} (n : a ≠ g) {o : Obj} (e : s.heap.get? a = some o) (d : (∃ vs n, o.data = .seq vs n) ∨ (∃ vs, o.data = .fields vs)) : h'.get? a = some o :=
  let ⟨a0, a1, a2, a3⟩ := x.ne4 e d; k a o n a0 a1 a2 a3 e
theorem KD.get {h' : Heap} (k : KD L s.heap h') (x : Fn s₀ (dueE L) m cm s) {a : Addr} {o : Obj} (e : s.heap.get? a = some o) (d : (∃ vs n, o.data = .seq vs n) ∨ (∃ vs, o.data = .fields vs)) : h'.get? a = some o :=
  let ⟨a0, a1, a2, a3⟩ := x.ne4 e d; k a o a0 a1 a2 a3 e
theorem KD.lk {h' : Heap} (k : KD L s.heap h') (x : Fn s₀ (dueE L) m cm s) : LK s.heap h' := fun _ _ e d => k.get x e (.inl d)
theorem KR.list {g : Addr} {h' : Heap} (k : KR L g s.heap h') (x : Fn s₀ (dueE L) m cm s) {a : Addr} {vs : Array Value} (n : a ≠ g) (e : s.heap.IsList a vs) : h'.IsList a vs :=
  let ⟨o, e, c, n', d⟩ := e; ⟨o, k.get x n e (.inl ⟨_, _, d⟩), c, n', d⟩
theorem KR.plain {g : Addr} {h' : Heap} (k : KR L g s.heap h') (x : Fn s₀ (dueE L) m cm s) {a : Addr} {vs : Array Value} (n : a ≠ g) (e : s.heap.PlainList a vs) : h'.PlainList a vs :=
  let ⟨n', e⟩ := e; ⟨n', k.get x n e (.inl ⟨_, _, rfl⟩)⟩
theorem KR.ints {g : Addr} {h' : Heap} (k : KR L g s.heap h') (x : Fn s₀ (dueE L) m cm s) {a : Addr} {ns : List Int} (n : a ≠ g) (e : LInts s.heap a ns) : LInts h' a ns :=
  let ⟨vs, i, r⟩ := e; ⟨vs, k.list x n i, r⟩
theorem KR.none {g : Addr} {h : Heap} {vs : Array Value} (x : Fn s₀ (dueE L) m cm s) (k : KR L g h s.heap) (pg : s.heap.PlainList g vs) {a : Addr} (ha : s.heap.objs.size ≤ a) : h.get? a = none := by
  cases q : h.get? a with
  | none => rfl
  | some o =>
    have n0 := none_size s.heap ha
    have ne : ∀ {b o}, s.heap.get? b = some o → a ≠ b := fun e => by rintro rfl; rw [n0] at e; cases e
    have nc : ∀ n c, (dueE L).cells.lookup n = some c → a ≠ c := fun n c hc => let ⟨o', e', _⟩ := x.cell n c hc; ne e'
    have nl : a ≠ L := let ⟨o', _, _, e', _⟩ := x.ns; ne e'
    have ng : a ≠ g := let ⟨_, e'⟩ := pg; ne e'
    rw [k a o ng nl (nc (Str.ofString "letters") _ rfl) (nc (Str.ofString "n") _ rfl) (nc (Str.ofString "rings") _ rfl) q] at n0
    cases n0
theorem Fn.lo (x : Fn s₀ (dueE L) m cm s) : s₀.heap.objs.size ≤ s.heap.objs.size := Nat.le_trans x.fresh (Nat.le_of_lt x.ns.lt)
theorem row_last {r a : Addr} {rw : List Int} {vs : Array Value} {l : Int} {tl : Tok} {p1 p2 p3 p4 p5 p6 : Pos} {kk : Nat} {Q : Value → Shared → Prop} (x : Fn s₀ (dueE L) m cm s) (e1 : m "row" = some (.ref r)) (e2 : m "ring" = some (.ref a)) (hrow : LInts s.heap r rw) (h5 : rw.length = 5)
    (ha : s.heap.PlainList a vs) (h0 : 0 < vs.size) (hl : vs[vs.size - 1]? = some (.int l tl)) (hl5 : 0 ≤ l ∧ l < 5) (h : ∀ u tk, Q (.int (rw.getD l.toNat 0) u) { s with toks := tk }) :
    wpAny (model prg w) A (eval (.Subscript (.Name (Str.ofString "row") p1) (.Subscript (.Name (Str.ofString "ring") p2) (.UnaryOp .USub (.Constant (.int 1) kk p3) p4) p5) p6) (dueE L)) Q E s := by
  refine Subscript_ (x.ld rfl rfl e1 ?_)
  refine Subscript_ (x.ld rfl rfl e2 ?_)
  refine wpAny_UnaryOp (wpAny_Constant_int (PyProof.Rows.neg_int ?_))
  refine tail_any (s := { s with toks := s.toks + 1 + 1 }) (ha.isList.typeIs : s.TypeIs (.ref a) "list") slot_list_getitem.lookup (wpAny_getItem_list_neg (s := { s with toks := s.toks + 1 + 1 }) (x := .int l tl) ha.isList (by decide) (by omega) (by decide) ?_ ?_) (by with_unfolding_all rfl)
  · rw [show ((-1 : Int) + vs.size).toNat = vs.size - 1 by omega]; exact hl
  obtain ⟨i, rfl⟩ : ∃ i : Nat, l = (i : Int) := ⟨l.toNat, (Int.toNat_of_nonneg hl5.1).symm⟩
  refine itemI hrow (by omega) (by omega) fun u => ?_
  have := h u (s.toks + 1 + 1)
  rwa [Int.toNat_natCast] at this
theorem due_while {p l : Int} {r a : Addr} {rw : List Int} {vs : Array Value} {t tl : Tok} {n : Nat} {Q : Flow → Shared → Prop} (hA : Ar 2 A) (x : Fn s₀ (dueE L) m cm s) (e1 : m "row" = some (.ref r)) (e2 : m "ring" = some (.ref a)) (e3 : m "place" = some (.int p t))
    (hrow : LInts s.heap r rw) (h5 : rw.length = 5) (hin : ∀ x ∈ rw, 0 ≤ x ∧ x < 5) (ha : s.heap.PlainList a vs) (hra : r ≠ a) (h0a : s₀.heap.objs.size ≤ a) (h0 : 0 < vs.size) (hl : vs[vs.size - 1]? = some (.int l tl)) (hl5 : 0 ≤ l ∧ l < 5) (hc : closes rw p n l = true) (hsz : vs.size + n ≤ 100)
    (hQ : ∀ s' vs', Fn s₀ (dueE L) m cm s' → KR L a s.heap s'.heap → s'.heap.PlainList a vs' → vs'.size = vs.size + ringN rw p n l → Q .next s') :
    wpAny (model prg w) A (exec dWhile (dueE L)) Q E s := by
  refine wpAny_While ?_
  refine codeAny_whileLoop (fun n' s' => ∃ vs' l' tl', Fn s₀ (dueE L) m cm s' ∧ KR L a s.heap s'.heap ∧ s'.heap.PlainList a vs' ∧ 0 < vs'.size ∧ vs'[vs'.size - 1]? = some (.int l' tl') ∧ (0 ≤ l' ∧ l' < 5) ∧ closes rw p n' l' = true ∧ vs'.size + n' ≤ 100 ∧ vs.size + ringN rw p n l = vs'.size + ringN rw p n' l') ?_ n
    ⟨vs, l, tl, x, .refl _ _ _, ha, h0, hl, hl5, hc, hsz, rfl⟩
  rintro n' s₁ ⟨vs', l', tl', x₁, kr, pa, hp, hl', hl5', hc', hsz', hw⟩
  have hrow₁ := kr.ints x hra hrow
  refine wpAny_isTrue_Compare1 ?_
  refine row_last x₁ e1 e2 hrow₁ h5 pa hp hl' hl5' fun u tk => ?_
  have x₁' : Fn s₀ (dueE L) m cm { s₁ with toks := tk } := x₁.to ⟨_, _, rfl, .refl _⟩
  refine x₁'.ld rfl rfl e3 ?_
  refine ne_int ?_
  refine wpAny_truthy_bool ?_
  by_cases hq : rw.getD l'.toNat 0 = p
  · rw [show (rw.getD l'.toNat 0 != p) = false by simpa using hq]
    refine wpAny_execs_nil ?_
    refine hQ _ vs' x₁' kr pa ?_
    rw [hw]
    cases n' with
    | zero => rfl
    | succ n' => rw [ringN, if_pos hq]; rfl
  · rw [show (rw.getD l'.toNat 0 != p) = true by simpa using hq]
    cases n' with
    | zero =>
      simp only [closes, beq_iff_eq] at hc'
      exact absurd hc' hq
    | succ n' =>
      simp only [closes, Bool.or_eq_true, beq_iff_eq] at hc'
      have hc2 := hc'.resolve_left hq
      refine wpAny_execs_cons ?_
      refine do_append (T := a) (by rfl) (by rfl) (by rfl) (by rfl) (fun Q' q => x₁'.ld rfl rfl e2 q) (its0 := vs') pa ?_
      refine row_last x₁' e1 e2 hrow₁ h5 pa hp hl' hl5' fun u2 tk2 => ?_
      refine ⟨vs', pa, by omega, fun h₂ p₂ sb => ?_⟩
      have c₂ : Ch a ({ s₁ with toks := tk2 } : Shared) { s₁ with heap := h₂, toks := tk2 } := ⟨h₂, _, rfl, fun b o hb e => (sb.2 b hb).trans e⟩
      have x₂ : Fn s₀ (dueE L) m cm { s₁ with toks := tk2 } := x₁.to ⟨_, _, rfl, .refl _⟩
      refine wpAny_execs_nil ⟨n', by omega, vs'.push _, rw.getD l'.toNat 0, u2, x₂.li pa.isList h0a c₂, kr.trans (KR.ch c₂), p₂, by simp, by simp, ?_, hc2, by simp; omega, ?_⟩
      · rw [List.getD_eq_getElem?_getD, List.getElem?_eq_getElem (by omega)]
        exact hin _ (List.getElem_mem _)
      · rw [hw, ringN, if_neg hq]
        simp
        omega
theorem ringsL_take {rw : List Int} {i : Nat} (hi : i < 5) : (ringsL rw).take (i + 1) = (ringsL rw).take i ++ [ringL rw (i : Int)] := by
  match i, hi with
  | 0, _ => rfl
  | 1, _ => rfl
  | 2, _ => rfl
  | 3, _ => rfl
  | 4, _ => rfl
theorem first5_mem {i : Nat} (hi : i < 5) : ((i : Nat) : Int) ∈ first5 := by
  match i, hi with
  | 0, _ => decide
  | 1, _ => decide
  | 2, _ => decide
  | 3, _ => decide
  | 4, _ => decide
theorem due_rings {r g : Addr} {rw : List Int} {Q : Flow → Shared → Prop} (hA : Ar 2 A) (X₀ : TG w s₀.heap) (x : Fn s₀ (dueE L) m cm s) (e1 : m "row" = some (.ref r)) (eg : cm "rings" = some (.ref g)) (hrow : LInts s.heap r rw) (hr : isRow rw)
    (hg : s.heap.PlainList g #[]) (hrg : r ≠ g) (h0g : s₀.heap.objs.size ≤ g)
    (hQ : ∀ s' m' vs, Fn s₀ (dueE L) m' cm s' → KR L g s.heap s'.heap → (∀ y : Str, y ≠ "place" → y ≠ "ring" → m' y = m y) → s'.heap.PlainList g vs → IntsAre vs.toList (ringsL rw) → Q .next s') :
    wpAny (model prg w) A (exec dRing (dueE L)) Q E s := by
  have X := X₀.d x.ks.d
  obtain ⟨h5, hin, hcl⟩ := hr
  refine wpAny_For ?_
  refine range5 X.1 5 fun t0 u0 v0 c0 hR => ?_
  refine iterF_range hR (by decide) _ _ fun o St W ho st0 => ?_
  have W' := W A hA.hh
  have u : Up s.heap ((s.heap.push { cls := .type "range", data := .fields #[.int 0 t0, .int (5 : Nat) u0, .int 1 v0] }).push o) := fun b o e => up_push _ _ _ _ (up_push _ _ _ _ e)
  have hI : s₀.heap.objs.size ≤ (s.heap.push { cls := .type "range", data := .fields #[.int 0 t0, .int (5 : Nat) u0, .int 1 v0] }).objs.size := by
    rw [Heap.size_push]; exact Nat.le_succ_of_le x.lo
  have hIn : s.heap.get? (s.heap.push { cls := .type "range", data := .fields #[.int 0 t0, .int (5 : Nat) u0, .int 1 v0] }).objs.size = none := none_size _ (by rw [Heap.size_push]; exact Nat.le_succ _)
  have hgI : g ≠ (s.heap.push { cls := .type "range", data := .fields #[.int 0 t0, .int (5 : Nat) u0, .int 1 v0] }).objs.size := by
    rw [Heap.size_push]; exact Nat.ne_of_lt (Nat.lt_succ_of_lt (isList_lt hg.isList))
  generalize hIe : (s.heap.push _).objs.size = I at *
  refine for_gen W' (fun i s' => ∃ m' vs, Fn s₀ (dueE L) m' cm s' ∧ KR L g s.heap s'.heap ∧ (∀ y : Str, y ≠ "place" → y ≠ "ring" → m' y = m y) ∧ s'.heap.PlainList g vs ∧ IntsAre vs.toList ((ringsL rw).take i)) ?_ ?_ ?_ ?_ ?_
  · rintro i s₁ h' tk ⟨m', vs, x₁, kd, hm, pl, iv⟩ hst kk
    exact ⟨m', vs, x₁.it (W'.own _ _ hst) hI ⟨_, _, rfl, kk⟩, kd.new hIn kk, hm, pl.at fun o e => kk _ _ hgI e, iv⟩
  · rintro i v s₁ hi ⟨_, t1, rfl⟩ ⟨m', vs, x₁, kd, hm, pl, iv⟩ hst
    refine wpAny_assign_Name ?_
    refine x₁.st rfl rfl fun s₂ x₂ c₂ => ?_
    have kd₂ := kd.trans (KR.of (KD.ch0 c₂))
    have pl₂ : s₂.heap.PlainList g vs := pl.at fun o e => c₂.up _ _ (ns_ne_plain pl x₁.ns) e
    refine wpAny_execs_cons ?_
    refine wpAny_Assign_Name ?_
    refine List_ (spliced_more (x₂.ld (n := Str.ofString "place") rfl (by rfl) (by rfl) (spliced_none ?_)))
    refine wpAny_newList ?_ (by rw [sizeLine_eq]; show 1 ≤ _; omega)
    have k₃ : Keeps s₂ { s₂ with heap := s₂.heap.push (seqObj "list" #[Value.int (i : Nat) t1] 0) } := ⟨_, _, rfl, up_push _ _⟩
    have x₃ := x₂.to (KS.of_keeps k₃)
    have pa₃ : (s₂.heap.push (seqObj "list" #[Value.int (i : Nat) t1] 0)).PlainList s₂.heap.objs.size #[Value.int (i : Nat) t1] := ⟨0, Heap.get?_push_size _ rfl⟩
    have na : s.heap.get? s₂.heap.objs.size = none := KR.none x₂ kd₂ pl₂ (Nat.le_refl _)
    have h0a : s₀.heap.objs.size ≤ s₂.heap.objs.size := x₂.lo
    have hga : g ≠ s₂.heap.objs.size := Nat.ne_of_lt (isList_lt pl₂.isList)
    have fI₂ : Fields s₂.heap I := (W'.own _ _ hst).at fun o e => c₂.up _ _ ((W'.own _ _ hst).ne_ns x₁.ns).symm e
    have hIa : I ≠ s₂.heap.objs.size := by obtain ⟨_, _, e, _⟩ := fI₂; exact Nat.ne_of_lt (Heap.lt_size e)
    generalize hae : s₂.heap.objs.size = a at *
    refine x₃.st rfl rfl fun s₄ x₄ c₄ => ?_
    have kd₄ : KR L g s.heap s₄.heap := (kd₂.trans (KR.of (KD.up (kup k₃)))).trans (KR.of (KD.ch0 c₄))
    have pa₄ : s₄.heap.PlainList a #[Value.int (i : Nat) t1] := pa₃.at fun o e => c₄.up _ _ (ns_ne_plain pa₃ x₃.ns) e
    have pl₄ : s₄.heap.PlainList g vs := (pl₂.at fun o e => kup k₃ _ _ e).at fun o e => c₄.up _ _ (ns_ne_plain (pl₂.at fun o e => kup k₃ _ _ e) x₃.ns) e
    have row₄ : LInts s₄.heap r rw := kd₄.ints x hrg hrow
    have hra : r ≠ a := by
      rintro rfl
      obtain ⟨_, ⟨_, e, _⟩, _⟩ := hrow
      rw [na] at e; cases e
    have hp5 : ((i : Nat) : Int) ∈ first5 := first5_mem hi
    refine wpAny_execs_cons ?_
    refine due_while (n := 4) (p := (i : Nat)) (l := (i : Nat)) (hA.le (by decide)) x₄ ((hm _ (by decide) (by decide)).trans e1) rfl rfl row₄ h5 hin pa₄ hra h0a (by simp) (by simp; rfl) (by omega) (hcl _ hp5) (by simp) fun s₅ vs₅ x₅ kr₅ pa₅ hz₅ => ?_
    have X₅ := X₀.d x₅.ks.d
    have pl₅ : s₅.heap.PlainList g vs := kr₅.plain x₄ hga pl₄
    have kd₅ : KR L g s.heap s₅.heap := fun b o n a0 a1 a2 a3 e => kr₅ b o (by rintro rfl; rw [na] at e; cases e) a0 a1 a2 a3 (kd₄ b o n a0 a1 a2 a3 e)
    have hvs : vs.size = i := by
      have := iv.length
      simp [ringsL, first5] at this
      omega
    have hz5 : vs₅.size ≤ 100 := by
      rw [hz₅]
      have : ∀ (f : Nat) (l p : Int), ringN rw p f l ≤ f := by
        intro f
        induction f with
        | zero => intro l p; exact Nat.le_refl _
        | succ f ih =>
          intro l p
          rw [ringN]
          split
          · omega
          · exact Nat.succ_le_succ (ih _ _)
      have := this 4 (i : Nat) (i : Nat)
      simp
      omega
    refine wpAny_execs_cons ?_
    refine do_append (T := g) (by rfl) (by rfl) (by rfl) (by rfl) (fun Q' q => x₅.ldc rfl rfl rfl eg q) pl₅ ?_
    refine Call_ (bname X₅.1 (v := .builtin "len") (by kernel_rfl) (by kernel_rfl) (by decide) rfl rfl rfl rfl ?_)
    refine callWith_builtin1 (spliced_more (x₅.ld (n := Str.ofString "ring") rfl (by rfl) (by rfl) (spliced_none ?_)))
    refine len_list pa₅.isList (by omega) ?_
    refine ⟨vs, pl₅, by omega, fun h₆ p₆ sb => ?_⟩
    have c₆ : Ch g ({ s₅ with toks := s₅.toks + 1 + 1 } : Shared) { s₅ with heap := h₆, toks := s₅.toks + 1 + 1 } := ⟨h₆, _, rfl, fun b o hb e => (sb.2 b hb).trans e⟩
    have x₅' : Fn s₀ (dueE L) _ cm { s₅ with toks := s₅.toks + 1 + 1 } := x₅.to ⟨_, _, rfl, .refl _⟩
    have x₆ := x₅'.li pl₅.isList h0g c₆
    refine wpAny_execs_nil ⟨⟨_, _, x₆, kd₅.trans (KR.ch c₆), fun y h1 h2 => ?_, p₆, ?_⟩, ?_⟩
    · show (if y = "ring" then _ else if y = "place" then _ else m' y) = _
      rw [if_neg h2, if_neg h1]; exact hm y h1 h2
    · rw [ringsL_take hi, Array.toList_push, hz₅]
      exact ints_snoc iv _ _
    · refine W'.frame _ _ _ hst fun b hb o e hd => ?_
      simp only [List.not_mem_nil, or_false] at hb
      subst hb
      have e₂ := c₂.up _ _ ((W'.own _ _ hst).ne_ns x₁.ns).symm e
      have dd : (∃ vs n, o.data = .seq vs n) ∨ (∃ vs, o.data = .fields vs) := hd.elim .inr .inl
      have e₃ := kup k₃ _ _ e₂
      have e₄ := c₄.up _ _ (x₃.ne4 e₃ dd).1 e₃
      exact c₆.up _ _ (Ne.symm hgI) (kr₅.get x₄ hIa e₄ dd)
  · rintro s₁ ⟨m', vs, x₁, kd, hm, pl, iv⟩
    exact hQ s₁ m' vs x₁ kd hm pl iv
  · exact ⟨m, #[], x.to (KS.of_keeps ⟨_, _, rfl, u⟩), KR.of (KD.up u), fun _ _ _ => rfl, hg.at fun o e => u _ _ e, .nil⟩
  · exact st0
end
end Mine
end

section
open PySem PySem.W PySem.Calls PyProof.Rows
set_option maxRecDepth 100000
set_option linter.unusedVariables false
namespace Mine
section
variable {M : Model} {A : Around} {E : Value → Shared → Prop} {s : Shared}
theorem newEnv_cells {scope : Scope} {globals builtins : Addr} {closure : List (Str × Addr)} {qual : Str} {code : Value} {env : Env} {Q : Env → Shared → Prop}
    (hQ : Q (newEnv scope s.heap.objs.size globals (cellsFrom (s.heap.objs.size + 1) scope.names closure) qual none code (some env) builtins) { s with heap := pushCells (s.heap.push { cls := .type "dict", data := .dict #[] }) scope.names }) :
    wpAny M A (newFunctionEnv scope globals closure [] qual none code (some env) builtins) Q E s := by
  simp only [newFunctionEnv, Option.isSome_some, if_true]
  refine wpAny_bind (wpAny_alloc ?_)
  refine wpAny_bind (wpAny_layCells _ (fun name kind cells => by cases hkc : kind == NameKind.cell <;> simp) _ _ _ _ ?_)
  rw [show ({ s with heap := s.heap.push { cls := .type "dict", data := .dict #[] } } : Shared).heap.objs.size = s.heap.objs.size + 1 from Heap.size_push ..]
  rw [List.forIn_nil]
  exact wpAny_bind (wpAny_pure (wpAny_pure hQ))
end
theorem keeps_new {s s' s'' : Shared} {a : Addr} (k : Keeps s s') (c : Ch a s' s'') (n : s.heap.objs.size ≤ a) : Keeps s s'' := by
  obtain ⟨h, t, rfl, k⟩ := k
  obtain ⟨h', t', rfl, c⟩ := c
  exact ⟨h', t', rfl, fun b o e => c b o (Nat.ne_of_lt (Nat.lt_of_lt_of_le (Heap.lt_size e) n)) (k b o e)⟩
section
variable {w : World} {A : Around} {E : Value → Shared → Prop} {s s₁ : Shared} {env : Env}
/-- a comprehension `[x for x in it if test]` whose variable is a cell -/
theorem comp_cell {iter test : PySem.Expr} {x : Str} {px px2 : Pos} {scope : Scope} {cl : List (Str × Addr)} {pos : Pos} {Q : Value → Shared → Prop} {xv : Value} {n : Nat} {P : Nat → Value → Prop} (p : Value → Bool)
    (hclos : closureFor scope env = pure cl) (hcf : ∀ n, cellsFrom n scope.names cl = (x, n) :: cl) (hpc : ∀ h, pushCells h scope.names = h.push { cls := .type "cell", data := .cell none }) (hkind : scope.kind = .function)
    (hnames : ∀ y ∈ scope.names, y.2 = .local → scope.names.lookup y.1 = some .local) (hx : (relabel scope env).names.lookup x = some .cell) (hd : (x == ("__debug__" : Str)) = false)
    (hh : A.handled = none) (hn : n ≤ 1000)
    (hev : ∀ Q' : Value → Shared → Prop, Q' xv s₁ → wpAny (model prg w) A (eval iter env) Q' E s) (hit : IterF w A xv s₁ [] n P)
    (htest : ∀ i v s₃ (Q' : Bool → Shared → Prop) (E' : Value → Shared → Prop), i < n → P i v → Keeps s₁ s₃ → s₁.heap.objs.size + 4 ≤ s₃.heap.objs.size → s₃.heap.IsCell (s₁.heap.objs.size + 3) (some v) → (∀ s₄, Keeps s₃ s₄ → Q' (p v) s₄) →
      wpAny (model prg w) A (isTrue test (compEnvC scope ((x, s₁.heap.objs.size + 3) :: cl) (s₁.heap.objs.size + 2) env) (eval test (compEnvC scope ((x, s₁.heap.objs.size + 3) :: cl) (s₁.heap.objs.size + 2) env))) Q' E' s₃)
    (hQ : ∀ s' (vs : List Value), Keeps s₁ s' → vs.length = n → (∀ (j : Nat) v, vs[j]? = some v → P j v) → s'.heap.IsList (s₁.heap.objs.size + 1) (vs.filter p).toArray → Q (.ref (s₁.heap.objs.size + 1)) s')
    (hs : ∀ x, foldedSetIterable iter env x = pure x := by intro _; rfl) :
    wpAny (model prg w) A (eval (.ListComp (.Name x px2) [⟨.Name x px, iter, [test], 0⟩] scope pos) env) Q E s := by
  rw [eval_ListComp]
  refine wpAny_comprehension_free (use := none) rfl hs hclos hkind hnames (hev _ (hit _ _ fun o St W ho st0 => ?_))
  have W := W A hh
  refine wpAny_newObj_type (newEnv_cells ?_)
  rw [hcf, hpc]
  dsimp only
  generalize hI : s₁.heap.objs.size = I at *
  generalize hH1 : s₁.heap.push o = H1 at *
  have zD : H1.objs.size = I + 1 := by rw [← hH1, Heap.size_push, hI]
  generalize hH2 : H1.push { cls := .type "list", dict := none, data := .seq ([] : List Value).toArray } = H2
  have zC : H2.objs.size = I + 2 := by rw [← hH2, Heap.size_push, zD]
  generalize hH3 : H2.push { cls := .type "dict", data := .dict #[] } = H3
  have zc : H3.objs.size = I + 3 := by rw [← hH3, Heap.size_push, zC]
  generalize hH4 : H3.push { cls := .type "cell", data := .cell none } = H4
  rw [zD, zC]
  have u1 : Up s₁.heap H1 := hH1 ▸ up_push _ _
  have u2 : Up H1 H2 := hH2 ▸ up_push _ _
  have u3 : Up H2 H3 := hH3 ▸ up_push _ _
  have u4 : Up H3 H4 := hH4 ▸ up_push _ _
  have z4 : H4.objs.size = I + 4 := by rw [← hH4, Heap.size_push, zc]
  have k0 : Keeps s₁ { s₁ with heap := H4 } := ⟨_, _, rfl, fun b o e => u4 _ _ (u3 _ _ (u2 _ _ (u1 _ _ e)))⟩
  have l0 : H4.IsList (I + 1) #[] := ⟨_, u4 _ _ (u3 _ _ (hH2 ▸ zD ▸ Heap.get?_push_size _ rfl)), rfl, _, rfl⟩
  have m0 : H4.Ns (I + 2) (fun _ => none) := ((zC ▸ hH3 ▸ Heap.Ns.new H2 (.type "dict") : H3.Ns (I + 2) (fun _ => none))).keeps u4
  have c0 : H4.IsCell (I + 3) none := ⟨_, hH4 ▸ zc ▸ Heap.get?_push_size _ rfl, rfl⟩
  have st1 : St 0 H4 := W.frame _ _ _ st0 fun b hb o e _ => u4 _ _ (u3 _ _ (u2 _ _ e))
  have nIC : I ≠ I + 2 := by omega
  have nIc : I ≠ I + 3 := by omega
  have nDC : I + 1 ≠ I + 2 := by omega
  have nDc : I + 1 ≠ I + 3 := by omega
  have nDI : I + 1 ≠ I := by omega
  have nCc : I + 2 ≠ I + 3 := by omega
  have loop : codeAny (model prg w) A (Code.compLoop (.ListComp (.Name x px2) [⟨.Name x px, iter, [test], 0⟩] scope pos) 0 (.ref I) (.ref (I + 1)) (compEnvC scope ((x, I + 3) :: cl) (I + 2) env)) (compPost (model prg w) A E none Q (.ref (I + 1)) (I + 2)) { s₁ with heap := H4 } := by
    refine codeAny_compLoop_tests (fun k s' => ∃ i vs m cv, i + k = n ∧ vs.length = i ∧ (∀ (j : Nat) v, vs[j]? = some v → P j v) ∧ Keeps s₁ s' ∧ I + 4 ≤ s'.heap.objs.size ∧ St i s'.heap ∧ s'.heap.IsList (I + 1) (vs.filter p).toArray ∧ s'.heap.Ns (I + 2) m ∧ s'.heap.IsCell (I + 3) cv) ?_ n
      ⟨0, [], _, _, by omega, rfl, fun j v e => by simp at e, k0, Nat.le_of_eq z4.symm, st1, l0, m0, c0⟩
    rintro k s₂ ⟨i, vs, m, cv, hk, hl, hP, kp, hz, hst, il, hm, hc⟩
    cases k with
    | zero =>
      obtain rfl : i = n := by omega
      refine W.done _ _ _ hst fun h' tk kk => ?_
      have c1 : Ch I s₂ { s₂ with heap := h', toks := tk } := ⟨_, _, rfl, kk⟩
      refine ⟨m, ns_at hm fun o e => kk _ _ nIC.symm e, fun h'' hs'' => ?_⟩
      have c2 : Ch (I + 2) ({ s₂ with heap := h', toks := tk } : Shared) { s₂ with heap := h'', toks := tk } := ⟨_, _, rfl, fun b o hb e => (hs''.2 b hb).trans e⟩
      refine hQ _ vs (keeps_new (keeps_new kp c1 (Nat.le_of_eq hI)) c2 (by omega)) hl hP (isList_at il fun o e => c2.up _ _ nDC (c1.up _ _ nDI e))
    | succ k =>
      refine W.item i _ _ _ (by omega) hst fun v h' tk pv st' kk => ?_
      have c1 : Ch I s₂ { s₂ with heap := h', toks := tk } := ⟨_, _, rfl, kk⟩
      have hP' : ∀ (j : Nat) u, (vs ++ [v])[j]? = some u → P j u := fun j u hj => by
        rcases Nat.lt_trichotomy j vs.length with h | h | h
        · exact hP j u (by rwa [List.getElem?_append_left h] at hj)
        · subst h; simp at hj; subst hj; rw [hl]; exact pv
        · have hnone : (vs ++ [v])[j]? = none := List.getElem?_eq_none (by rw [List.length_append, List.length_singleton]; omega)
          rw [hnone] at hj; cases hj
      have m1 : h'.Ns (I + 2) m := ns_at hm fun o e => kk _ _ nIC.symm e
      have l1 : h'.IsList (I + 1) (vs.filter p).toArray := isList_at il fun o e => kk _ _ nDI e
      have cc1 : h'.IsCell (I + 3) cv := cell_at hc fun o e => kk _ _ nIc.symm e
      refine wpAny_assign_Name ?_
      refine wpAny_storeName_cell (env := compEnvC scope ((x, I + 3) :: cl) (I + 2) env) (c := I + 3) hkind hx (by simp [compEnvC]) cc1 fun h2 hc2 hs2 => ?_
      have c2 : Ch (I + 3) ({ s₂ with heap := h', toks := tk } : Shared) { s₂ with heap := h2, toks := tk } := ⟨_, _, rfl, fun b o hb e => (hs2.2 b hb).trans e⟩
      have kp2 := keeps_new (keeps_new kp c1 (Nat.le_of_eq hI)) c2 (by omega)
      have st2 : St (i + 1) h2 := W.frame _ _ _ st' fun b hb o e _ => (by
        have hbI : b = I := by simpa using hb
        subst hbI
        exact c2.up _ _ nIc e)
      have m2 : h2.Ns (I + 2) m := ns_at m1 fun o e => c2.up _ _ nCc e
      have l2 : h2.IsList (I + 1) (vs.filter p).toArray := isList_at l1 fun o e => c2.up _ _ nDc e
      refine wpAny_tests_one (htest i v _ _ _ (by omega) pv kp2 (Nat.succ_le_of_lt (by obtain ⟨_, e, _⟩ := hc2; exact Heap.lt_size e)) hc2 fun s₃ k₃ => ?_)
      have kp3 := keeps_of kp2 k₃
      have st3 : St (i + 1) s₃.heap := W.frame _ _ _ st2 fun b _ o e _ => kup k₃ _ _ e
      have m3 := ns_at m2 fun o e => kup k₃ _ _ e
      have l3 := isList_at l2 fun o e => kup k₃ _ _ e
      have c3 := cell_at hc2 fun o e => kup k₃ _ _ e
      have z3 : I + 4 ≤ s₃.heap.objs.size := Nat.succ_le_of_lt (by obtain ⟨_, e, _⟩ := c3; exact Heap.lt_size e)
      cases hp : p v with
      | false =>
        rw [if_neg (by simp)]
        refine ⟨k, by omega, i + 1, vs ++ [v], m, _, by omega, by simp [hl], hP', kp3, z3, st3, ?_, m3, c3⟩
        rw [List.filter_append]
        simpa [hp] using l3
      | true =>
        rw [if_pos rfl]
        refine wpAny_Name (wpAny_loadName_cell (c := I + 3) hkind hx (by simp [compEnvC]) c3 ?_) hd
        refine wpAny_list_append l3 (fun h5 l5 hs5 => ?_) (by
          have : (vs.filter p).length ≤ vs.length := List.length_filter_le _ _
          rw [List.size_toArray, sizeLine_eq]; omega)
        have c5 : Ch (I + 1) s₃ { s₃ with heap := h5 } := ⟨h5, s₃.toks, rfl, fun b o hb e => (hs5.2 b hb).trans e⟩
        have c5' := cell_at c3 fun o e => c5.up _ _ nDc.symm e
        refine ⟨k, by omega, i + 1, vs ++ [v], m, _, by omega, by simp [hl], hP', keeps_new kp3 c5 (by omega), Nat.succ_le_of_lt (by obtain ⟨_, e, _⟩ := c5'; exact Heap.lt_size e), ?_, ?_, ns_at m3 fun o e => c5.up _ _ nDC.symm e, c5'⟩
        · exact W.frame _ _ _ st3 fun b hb o e _ => (by
            have hbI : b = I := by simpa using hb
            subst hbI
            exact c5.up _ _ nDI.symm e)
        · rw [List.filter_append]
          have : h5.IsList (I + 1) (vs.filter p ++ [v]).toArray := by simpa using l5
          simpa [hp] using this
  refine codeAny_compStart_list ?_ ?_
  · exact loop
  · exact W.self 0 _ _ _ st1 loop
/-- a comprehension `[elt for x in it if test]`, quiet -/
theorem comp_flt {elt iter test : PySem.Expr} {x : Str} {px : Pos} {scope : Scope} {cl : List (Str × Addr)} {pos : Pos} {Q : Value → Shared → Prop} {xv : Value} {n : Nat} {P : Nat → Value → Prop} (p : Value → Bool) (F : Value → Value → Prop)
    (hclos : closureFor scope env = pure cl) (hcell : ∀ y ∈ scope.names, y.2 ≠ .cell) (hkind : scope.kind = .function)
    (hnames : ∀ y ∈ scope.names, y.2 = .local → scope.names.lookup y.1 = some .local) (hx : scope.names.lookup x = some .local)
    (hh : A.handled = none) (hn : n ≤ 1000)
    (hev : ∀ Q' : Value → Shared → Prop, Q' xv s₁ → wpAny (model prg w) A (eval iter env) Q' E s) (hit : IterOk w A xv s₁ n P)
    (htest : ∀ C i v s₃ m₃ E', s₁.heap.objs.size ≤ C → P i v → s₃.heap.Ns C m₃ → m₃ x = some v → Up s₁.heap s₃.heap →
      wpAny (model prg w) A (isTrue test (compEnvC scope cl C env) (eval test (compEnvC scope cl C env))) (fun ok s₄ => ok = p v ∧ Keeps s₃ s₄) E' s₃)
    (helt : ∀ C i v s₃ m₃ E', s₁.heap.objs.size ≤ C → P i v → s₃.heap.Ns C m₃ → m₃ x = some v → Up s₁.heap s₃.heap →
      wpAny (model prg w) A (eval elt (compEnvC scope cl C env)) (fun y s₄ => F v y ∧ Keeps s₃ s₄) E' s₃)
    (hQ : ∀ D h' tk (ys vs : List Value), s₁.heap.get? D = none → h'.IsList D ys.toArray → vs.length = n → (∀ (j : Nat) v, vs[j]? = some v → P j v) → Paired F (vs.filter p) ys → Up s₁.heap h' → Q (.ref D) { s₁ with heap := h', toks := tk })
    (hs : ∀ x, foldedSetIterable iter env x = pure x := by intro _; rfl) :
    wpAny (model prg w) A (eval (.ListComp elt [⟨.Name x px, iter, [test], 0⟩] scope pos) env) Q E s := by
  refine wpAny_ListComp_free p F hclos hcell hkind hnames hx (hev _ (hit _ _ fun o St fp W hfp hof hst => ?_)) hs
  refine ⟨_, _, _, _, _, _, rfl, W A hh, ?_, hst, ?_, ⟨?_, ?_⟩, ?_⟩
  · rw [sizeLine_eq]; omega
  · intro b hb
    show b < (s₁.heap.push o).objs.size
    rw [Heap.size_push]; exact hfp b hb
  · intro C i v s₃ m₃ E' hC hP hns hm hk htk
    refine wpAny_tests_one (htest C i v s₃ m₃ E' (Nat.le_trans (Nat.le_of_lt (by rw [Heap.size_push]; exact Nat.lt_succ_self _)) hC) hP hns hm fun b ob e => hk b ob ?_ (up_push _ _ _ _ e))
    simp only [List.mem_cons, List.not_mem_nil, or_false]
    exact Nat.ne_of_lt (Heap.lt_size e)
  · intro C i v s₃ m₃ E' hC hP hp hns hm hk htk
    refine helt C i v s₃ m₃ E' (Nat.le_trans (Nat.le_of_lt (by rw [Heap.size_push]; exact Nat.lt_succ_self _)) hC) hP hns hm fun b ob e => hk b ob ?_ (up_push _ _ _ _ e)
    simp only [List.mem_cons, List.not_mem_nil, or_false]
    exact Nat.ne_of_lt (Heap.lt_size e)
  · intro D h' tk ys vs hD hl hpl hlen hP hF hk
    have up : Up s₁.heap h' := fun b ob e => hk b ob (by simp only [List.mem_cons, List.not_mem_nil, or_false]; exact Nat.ne_of_lt (Heap.lt_size e)) (up_push _ _ _ _ e)
    exact hQ D h' tk ys.toList vs (none_of_up (up_push _ _) hD) (by simpa using hl) hlen hP hF up
end
end Mine
end

section
open PySem PySem.W PySem.Calls PyProof.Rows
set_option maxRecDepth 100000
set_option linter.unusedVariables false
namespace Mine
noncomputable def okT (R : List Int) (k : Int) : Bool := decide (R.filter (fun r => k.fmod r != 0) = [])
noncomputable def cand (R : List Int) : List Int := ([1, 2, 3, 4, 5, 6] : List Int).filter (okT R)
noncomputable def timesD (R : List Int) : Int := (cand R).headD 0
theorem min_head {l : List Int} (hp : l.Pairwise (· ≤ ·)) {M : Int} (hm : M ∈ l) (hl : ∀ a ∈ l, M ≤ a) : M = l.headD 0 := by
  cases l with
  | nil => cases hm
  | cons a r =>
    have h1 := hl a (.head _)
    have h2 : a ≤ M := by
      rcases List.mem_cons.mp hm with rfl | hm
      · exact Int.le_refl _
      · exact (List.pairwise_cons.mp hp).1 _ hm
    show M = a
    omega
theorem cand_sorted (R : List Int) : (cand R).Pairwise (· ≤ ·) := List.Pairwise.filter _ (by decide)
theorem ints_filter {f : Int → Bool} {p : Value → Bool} (hf : ∀ k t, p (.int k t) = f k) {vs : List Value} {ns : List Int} (h : IntsAre vs ns) : IntsAre (vs.filter p) (ns.filter f) := by
  induction h with
  | nil => exact .nil
  | cons k t _ ih =>
    rw [List.filter_cons, List.filter_cons, hf]
    cases f k with
    | true => exact .cons _ _ ih
    | false => exact ih
noncomputable def mulV (k : Int) : Value → Bool
  | .int r _ => k.fmod r != 0
  | _ => false
noncomputable def okV (R : List Int) : Value → Bool
  | .int k _ => okT R k
  | _ => false
noncomputable def At17 (i : Nat) (v : Value) : Prop := i < 6 ∧ ∃ t, v = .int (1 + (i : Int)) t
theorem ints17 {vs : List Value} (hl : vs.length = 6) (h : ∀ (j : Nat) v, vs[j]? = some v → At17 j v) : IntsAre vs [1, 2, 3, 4, 5, 6] := by
  obtain ⟨a, vs0, rfl, hl0⟩ := len_cons hl
  obtain ⟨b, vs1, rfl, hl1⟩ := len_cons hl0
  obtain ⟨c, vs2, rfl, hl2⟩ := len_cons hl1
  obtain ⟨d, vs3, rfl, hl3⟩ := len_cons hl2
  obtain ⟨e, vs4, rfl, hl4⟩ := len_cons hl3
  obtain ⟨f, vs5, rfl, hl5⟩ := len_cons hl4
  obtain rfl := List.eq_nil_of_length_eq_zero hl5
  obtain ⟨_, t0, rfl⟩ := h 0 a rfl
  obtain ⟨_, t1, rfl⟩ := h 1 b rfl
  obtain ⟨_, t2, rfl⟩ := h 2 c rfl
  obtain ⟨_, t3, rfl⟩ := h 3 d rfl
  obtain ⟨_, t4, rfl⟩ := h 4 e rfl
  obtain ⟨_, t5, rfl⟩ := h 5 f rfl
  exact .cons _ _ (.cons _ _ (.cons _ _ (.cons _ _ (.cons _ _ (.cons _ _ .nil)))))
section
variable {w : World} {A : Around} {E : Value → Shared → Prop} {s s₀ : Shared} {L : Addr} {m cm : Str → Option Value}
theorem iterF_range17 {r : Addr} {t u v : Tok} (hr : IsRange s.heap r 1 7 1 t u v) : IterF w A (.ref r) s [] 6 At17 := by
  intro Q E h
  refine wpAny_pyIter_range hr (by decide) ?_
  rw [show Builtin.Range.rangeSize 1 7 1 = ((6 : Nat) : Int) by decide]
  refine h _ (fun i h => IsRangeIter h s.heap.objs.size (1 + (i : Nat) * 1) (((6 : Nat) : Int) - (i : Nat)) 1) (fun A' hA' => ?_) rfl (by simpa using Heap.get?_push_size s.heap rfl)
  have W := Walks_lt (w := w) (Walks.range (prog := prg) (w := w) hA' s.heap.objs.size 1 1 6)
  have e : (fun (i : Nat) (v : Value) => i < 6 ∧ ∃ t, v = Value.int (1 + (i : Int) * 1) t) = At17 := by
    funext i v
    simp [At17]
  rw [e] at W
  refine Wk.of W (by simp) ?_ (fun i h hs => ⟨_, _, hs, rfl, by intro q t; simp [rawInt]⟩)
  intro i h hst b hb o e
  simp only [List.mem_cons, List.not_mem_nil, or_false] at hb
  subst hb
  have hst' : h.get? s.heap.objs.size = some _ := hst
  rw [hst'] at e; cases e; exact .inl ⟨_, rfl⟩
theorem min_ints {l : Addr} {vs : List Value} {ns : List Int} {Q : Value → Shared → Prop} (hh : A.handled = none) (hl : s.heap.IsList l vs.toArray) (hi : IntsAre vs ns) (hne : 0 < ns.length)
    (h : ∀ s' M (t : Tok), Keeps s s' → M ∈ ns → (∀ a ∈ ns, M ≤ a) → Q (.int M t) s') : wpAny (model prg w) A (PySem.call (.builtin "min") [.ref l]) Q E s := by
  obtain ⟨xs, e⟩ := hi.allInts.items
  have hns : ns = xs.toList.map (·.1) := by rw [← hi.numsOf, ← nums_intItems, ← e]
  have hz : xs.size = ns.length := by rw [hns]; simp
  rw [e] at hl
  refine min_intList hh hl (by omega) fun v h' tk hv hk => ?_
  obtain ⟨t, rfl⟩ := intItems_at hv
  obtain ⟨h1, h2⟩ := argBest_lt (numAt xs) (xs.size - 1)
  have at' : ∀ j, j < ns.length → numAt xs j ∈ ns ∧ numAt xs j = ns.getD j 0 := fun j hj => by
    have e1 : numAt xs j = ns.getD j 0 := by rw [hns, numAt_eq]
    exact ⟨by rw [e1, List.getD_eq_getElem?_getD, List.getElem?_eq_getElem hj]; exact List.getElem_mem _, e1⟩
  refine h _ _ t ⟨_, _, rfl, hk⟩ (at' _ (by omega)).1 fun a ha => ?_
  obtain ⟨j, hj, rfl⟩ := List.getElem_of_mem ha
  have e2 := (at' j hj).2
  rw [List.getD_eq_getElem?_getD, List.getElem?_eq_getElem hj] at e2
  have e3 : numAt xs j = ns[j] := e2
  rw [← e3]
  exact h2 j (by omega)
theorem due_times {g : Addr} {vs : List Value} {R : List Int} {Q : Flow → Shared → Prop} (hA : Ar 3 A) (X₀ : TG w s₀.heap) (x : Fn s₀ (dueE L) m cm s) (eg : cm "rings" = some (.ref g)) (hg : s.heap.IsList g vs.toArray) (iv : IntsAre vs R) (h5 : R.length = 5) (hpos : ∀ r ∈ R, 1 ≤ r) (hne : 0 < (cand R).length)
    (hQ : ∀ s' t', Fn s₀ (dueE L) (fun y => if y = "times" then some (.int (timesD R) t') else m y) cm s' → KD L s.heap s'.heap → Q .next s') :
    wpAny (model prg w) A (exec (dB.getD 5 (.Pass default)) (dueE L)) Q E s := by
  have X := X₀.d x.ks.d
  refine wpAny_Assign_Name ?_
  refine Call_ (bname X.1 (v := .builtin "min") (by kernel_rfl) (by kernel_rfl) (by decide) rfl rfl rfl rfl ?_)
  refine callWith_builtin1 (spliced_more ?_)
  obtain ⟨s1, hs1⟩ : ∃ s1 : Shared, s1 = { s with heap := s.heap.push { cls := .type "range", data := .fields #[.int 1 s.toks, .int 7 (s.toks + 1), .int 1 (s.toks + 1 + 1)] }, toks := s.toks + 1 + 1 + 1 } := ⟨_, rfl⟩
  have hR1 : IsRange s1.heap s.heap.objs.size 1 7 1 s.toks (s.toks + 1) (s.toks + 1 + 1) := by rw [hs1]; exact Heap.get?_push_size _ rfl
  have k1 : Keeps s s1 := by rw [hs1]; exact ⟨_, _, rfl, up_push _ _⟩
  refine comp_cell (s₁ := s1) (xv := .ref s.heap.objs.size) (n := 6) (P := At17) (okV R) (cl := [(Str.ofString "rings", L + 3)])
    (by kernel_rfl) (fun n => rfl) (fun h => rfl) rfl (by decide) (by rfl) (by decide) hA.hh (by decide) ?_ (iterF_range17 hR1) ?_ ?_
  · intro Q' q
    refine Call_ (bname X.1 (by kernel_rfl) boot_range (by decide) rfl rfl rfl rfl ?_)
    refine tcall (spliced_more (wpAny_Constant_int (spliced_more (wpAny_Constant_int (spliced_none ?_)))))
    exact call_range_2 (hs1 ▸ q)
  · intro i v s₃ Q' E' hi ⟨_, ti, ev⟩ k₃ hz₃ hc₃ hq
    subst ev
    generalize s1.heap.objs.size + 3 = c at *
    generalize s1.heap.objs.size + 2 = C at *
    have u3 : Up s.heap s₃.heap := fun b o e => kup k₃ _ _ (kup k1 _ _ e)
    have cr : s₃.heap.IsCell (L + 3) (some (.ref g)) := cell_at (eg ▸ x.cell (Str.ofString "rings") _ rfl) fun o e => u3 _ _ e
    have hg₃ : s₃.heap.IsList g vs.toArray := isList_at hg fun o e => u3 _ _ e
    refine wpAny_isTrue_Compare1 ?_
    refine comp_flt (s₁ := s₃) (xv := .ref g) (n := vs.length) (P := fun i v => vs[i]? = some v) (mulV (1 + (i : Int))) (fun v y => y = v) (cl := [(Str.ofString "k", c)])
      (by kernel_rfl) (by decide) rfl (by decide) (by rfl) hA.hh (by rw [iv.length]; omega) ?_ (iter_list hg₃) ?_ ?_ ?_
    · intro Q2 q
      exact wpAny_Name (wpAny_loadName_cell (c := L + 3) rfl rfl rfl cr q)
    · intro C j v s₄ m₄ E4 hC hP hns hm hk
      obtain ⟨r, tr, rfl, hr⟩ := ints_at iv hP
      refine wpAny_isTrue_Compare1 ?_
      refine wpAny_BinOp ?_
      refine wpAny_Name (wpAny_loadName_cell rfl rfl rfl (cell_at hc₃ fun o e => hk _ _ e) ?_)
      refine wpAny_Name (wpAny_loadName_local rfl rfl hns hm ?_)
      have := hpos r hr
      refine mod_int' (by omega) ?_
      refine wpAny_Constant_int ?_
      refine ne_int ?_
      exact wpAny_truthy_bool ⟨rfl, _, _, rfl, fun b o e => e⟩
    · intro C j v s₄ m₄ E4 hC hP hns hm hk
      exact wpAny_Name (wpAny_loadName_local rfl rfl hns hm ⟨rfl, keeps_rfl _⟩)
    · intro D h' tk ys us hD hl' hlen hP hF hk
      obtain rfl : us = vs := eq_of_get hlen hP
      have ey : ys = us.filter (mulV (1 + (i : Int))) := by
        have key : ∀ {a b : List Value}, Paired (fun v y => y = v) a b → b = a := fun h => by
          induction h with
          | nil => rfl
          | cons e _ ih => rw [e, ih]
        exact key hF
      subst ey
      have i1 := ints_filter (f := fun r => (1 + (i : Int)).fmod r != 0) (p := mulV (1 + (i : Int))) (fun _ _ => rfl) iv
      refine List_ (spliced_none ?_)
      refine wpAny_newList ?_ (by rw [sizeLine_eq]; exact Nat.zero_le _)
      refine eq_intsK (vs := us.filter (mulV (1 + (i : Int)))) (us := []) (isList_at hl' fun o e => up_push _ _ _ _ e) i1 ⟨_, Heap.get?_push_size _ rfl, rfl, _, rfl⟩ .nil hA.unit ?_
      refine wpAny_truthy_bool ?_
      refine hq _ ⟨_, _, rfl, fun b o e => up_push _ _ _ _ (hk b o e)⟩
  · intro s₃ us k₃ hl hP hD
    have i1 : IntsAre (us.filter (okV R)) (cand R) := ints_filter (f := okT R) (fun _ _ => rfl) (ints17 hl hP)
    refine spliced_none ?_
    refine min_ints hA.hh hD i1 hne fun s₄ M t k₄ hM hle => ?_
    rw [min_head (cand_sorted R) hM hle]
    have kk : Keeps s s₄ := keeps_of k1 (keeps_of k₃ k₄)
    refine (x.to (KS.of_keeps kk)).st (n := Str.ofString "times") rfl (by rfl) fun s' x' c' => ?_
    exact hQ s' t x' ((KD.up (kup kk)).trans (KD.ch0 c'))
end
end Mine
end

section
open PySem PySem.W PySem.Calls PyProof.Rows
set_option maxRecDepth 100000
set_option linter.unusedVariables false
namespace Mine
noncomputable def insAll (x : Int) : List Int → List (List Int)
  | [] => [[x]]
  | y :: l => (x :: y :: l) :: (insAll x l).map (y :: ·)
noncomputable def perms : List Int → List (List Int)
  | [] => [[]]
  | x :: l => (perms l).flatMap (insAll x)
noncomputable def perms5 : List (List Int) := perms first5
noncomputable def mvs : List (List Int) := [[1, 0, 2, 3, 4], [0, 2, 1, 3, 4], [0, 1, 3, 2, 4], [0, 1, 2, 4, 3], [4, 0, 1, 2, 3]]
theorem mv_in (c : Nat) : mv c ∈ mvs := by
  unfold mv
  split
  · exact .head _
  split
  · exact .tail _ (.head _)
  split
  · exact .tail _ (.tail _ (.head _))
  split
  · exact .tail _ (.tail _ (.tail _ (.head _)))
  · exact .tail _ (.tail _ (.tail _ (.tail _ (.head _))))
theorem perms_step : ∀ p ∈ perms5, ∀ m ∈ mvs, p.map (fun x => m.getD x.toNat 0) ∈ perms5 := by
  have h : (perms5.all fun p => mvs.all fun m => perms5.contains (p.map (fun x => m.getD x.toNat 0))) = true := by decide +kernel
  intro p hp m hm
  have h1 := List.all_eq_true.mp (List.all_eq_true.mp h p hp) m hm
  exact List.contains_iff_mem.mp h1
theorem rowD_cons (c : Nat) (wd : List Nat) : rowD (c :: wd) = (rowD wd).map fun p => (mv c).getD p.toNat 0 := by
  unfold rowD
  rw [List.map_map]
  refine List.map_congr_left fun p _ => ?_
  rw [List.foldl_reverse, List.foldr_cons]
  show stepP _ c = stepP (List.foldl stepP p wd.reverse) c
  rw [List.foldl_reverse]
theorem rowD_perm : ∀ wd : List Nat, rowD wd ∈ perms5
  | [] => by decide +kernel
  | c :: wd => by rw [rowD_cons]; exact perms_step _ (rowD_perm wd) _ (mv_in c)
noncomputable def rowB (rw : List Int) : Bool := rw.length == 5 && rw.all (fun x => decide (0 ≤ x) && decide (x < 5)) && first5.all (fun p => closes rw p 4 p) && decide (0 < (cand (ringsL rw)).length)
theorem perms_ok : ∀ p ∈ perms5, rowB p = true := by
  have h : (perms5.all rowB) = true := by decide +kernel
  exact List.all_eq_true.mp h
theorem rowB_is {rw : List Int} (h : rowB rw = true) : isRow rw ∧ 0 < (cand (ringsL rw)).length := by
  unfold rowB at h
  simp only [Bool.and_eq_true, beq_iff_eq, List.all_eq_true, decide_eq_true_eq] at h
  exact ⟨⟨h.1.1.1, h.1.1.2, h.1.2⟩, h.2⟩
theorem rowD_ok (wd : List Nat) : isRow (rowD wd) ∧ 0 < (cand (ringsL (rowD wd))).length := rowB_is (perms_ok _ (rowD_perm wd))
theorem rings_pos (rw : List Int) : ∀ r ∈ ringsL rw, 1 ≤ r := by
  intro r hr
  obtain ⟨p, _, rfl⟩ := List.mem_map.mp hr
  show (1 : Int) ≤ ((1 + _ : Nat) : Int)
  omega
theorem rings_len (rw : List Int) : (ringsL rw).length = 5 := rfl
theorem wordN_in (n : Int) : ∀ c ∈ wordN n, c ∈ letters5 := by
  have key : ∀ k, ∀ c ∈ lettr n k, c ∈ letters5 := fun k => (by decide : ∀ d < 14, ∀ c ∈ lettersN.getD d [], c ∈ letters5) _ (dig_lt n k)
  intro c hc
  unfold wordN at hc
  rw [List.mem_append, List.mem_append] at hc
  rcases hc with (hc | hc) | hc <;> exact key _ c hc
theorem wordN_len (n : Int) : (wordN n).length ≤ 100 := by
  have key : ∀ k, (lettr n k).length ≤ 3 := fun k => (by decide : ∀ d < 14, (lettersN.getD d []).length ≤ 3) _ (dig_lt n k)
  have h0 := key 0
  have h1 := key 1
  have h2 := key 2
  unfold wordN
  simp
  omega
end Mine
end

section
open PySem PySem.W PySem.Calls PyProof.Rows
set_option maxRecDepth 100000
set_option linter.unusedVariables false
namespace Mine
noncomputable def isTup (h : Heap) (a : Addr) (vs : Array Value) : Prop := ∃ n, h.get? a = some { cls := .type "tuple", data := .seq vs n }
theorem isTup.at {h h' : Heap} {a : Addr} {vs : Array Value} (x : isTup h a vs) (k : ∀ o, h.get? a = some o → h'.get? a = some o) : isTup h' a vs := let ⟨n, e⟩ := x; ⟨n, k _ e⟩
/-- all kept but for the frame's own and two lists -/
noncomputable def K2 (L T R : Addr) (h h' : Heap) : Prop := ∀ b o, b ≠ T → b ≠ R → b ≠ L → b ≠ L + 1 → b ≠ L + 2 → b ≠ L + 3 → h.get? b = some o → h'.get? b = some o
section
variable {w : World} {A : Around} {E : Value → Shared → Prop} {s s₀ : Shared} {L : Addr} {m cm : Str → Option Value}
theorem KD.none {h : Heap} (x : Fn s₀ (dueE L) m cm s) (k : KD L h s.heap) {a : Addr} (ha : s.heap.objs.size ≤ a) : h.get? a = none := by
  cases q : h.get? a with
  | none => rfl
  | some o =>
    have n0 := none_size s.heap ha
    have ne : ∀ {b o}, s.heap.get? b = some o → a ≠ b := fun e => by rintro rfl; rw [n0] at e; cases e
    have nc : ∀ n c, (dueE L).cells.lookup n = some c → a ≠ c := fun n c hc => let ⟨o', e', _⟩ := x.cell n c hc; ne e'
    have nl : a ≠ L := let ⟨o', _, _, e', _⟩ := x.ns; ne e'
    rw [k a o nl (nc (Str.ofString "letters") _ rfl) (nc (Str.ofString "n") _ rfl) (nc (Str.ofString "rings") _ rfl) q] at n0
    cases n0
theorem KD.plain {h' : Heap} (k : KD L s.heap h') (x : Fn s₀ (dueE L) m cm s) {a : Addr} {vs : Array Value} (e : s.heap.PlainList a vs) : h'.PlainList a vs := (k.lk x).plain e
theorem KD.ch0' (c : Ch L s s) : True := trivial
theorem due_turn {lt T R : Addr} {ts rs : Array Value} {n : Int} {tn : Tok} {Q : Flow → Shared → Prop} (hA : Ar 5 A) (X₀ : TG w s₀.heap) (x : Fn s₀ (dueE L) m cm s)
    (el : cm "letters" = some (.ref lt)) (hl : LStr s.heap lt lettersN) (en : cm "n" = some (.int n tn)) (eT : m "due" = some (.ref T)) (eR : m "rows" = some (.ref R)) (hT : s.heap.PlainList T ts) (hR : s.heap.PlainList R rs) (hTR : T ≠ R) (hT0 : s₀.heap.objs.size ≤ T) (hR0 : s₀.heap.objs.size ≤ R) (hts : ts.size ≤ 1000) (hrs : rs.size ≤ 1000)
    (hQ : ∀ s' m' cm' t r p tm tr, Fn s₀ (dueE L) m' cm' s' → (∀ y : Str, y ≠ "rings" → cm' y = cm y) → m' "due" = some (.ref T) → m' "rows" = some (.ref R) → K2 L T R s.heap s'.heap → s'.heap.PlainList T (ts.push (.ref t)) → s'.heap.PlainList R (rs.push (.ref p)) →
      s'.heap.IsList t #[.ref r, .ref r, .int (timesD (ringsL (rowD (wordN n)))) tm] → isTup s'.heap p #[.ref r, .int rs.size tr] → LInts s'.heap r (rowD (wordN n)) → s.heap.get? t = none → s.heap.get? r = none → s.heap.get? p = none → Q .next s') :
    wpAny (model prg w) A (execs dB (dueE L)) Q E s := by
  have hz0 := hT.isList
  have hTs : T < s.heap.objs.size := isList_lt hT.isList
  have hRs : R < s.heap.objs.size := isList_lt hR.isList
  refine wpAny_execs_cons ?_
  refine due_word (hA.le (by decide)) X₀ x el en hl fun s₁ t₁ x₁ kd₁ => ?_
  have pT₁ := kd₁.plain x hT
  have pR₁ := kd₁.plain x hR
  refine wpAny_execs_cons ?_
  refine wpAny_Assign_Name ?_
  refine List_ (spliced_none ?_)
  refine wpAny_newList ?_ (by rw [sizeLine_eq]; exact Nat.zero_le _)
  have nr : s.heap.get? s₁.heap.objs.size = none := kd₁.none x₁ (Nat.le_refl _)
  have h0r : s₀.heap.objs.size ≤ s₁.heap.objs.size := x₁.lo
  have Tr : T ≠ s₁.heap.objs.size := Nat.ne_of_lt (isList_lt pT₁.isList)
  have Rr : R ≠ s₁.heap.objs.size := Nat.ne_of_lt (isList_lt pR₁.isList)
  have pr₁ : (s₁.heap.push (seqObj "list" #[] 0)).PlainList s₁.heap.objs.size #[] := ⟨0, Heap.get?_push_size _ rfl⟩
  have k₁ : Keeps s₁ { s₁ with heap := s₁.heap.push (seqObj "list" #[] 0) } := ⟨_, _, rfl, up_push _ _⟩
  generalize s₁.heap.objs.size = r at *
  have x₁' := x₁.to (KS.of_keeps k₁)
  refine x₁'.st rfl rfl fun s₂ x₂ c₂ => ?_
  have kd₂ : KD L s.heap s₂.heap := (kd₁.trans (KD.up (kup k₁))).trans (KD.ch0 c₂)
  have pr₂ : s₂.heap.PlainList r #[] := pr₁.at fun o e => c₂.up _ _ (ns_ne_plain pr₁ x₁'.ns) e
  refine wpAny_execs_cons ?_
  refine due_row (r := r) hA X₀ x₂ rfl rfl pr₂ h0r (fun n c e => list_ne_cell pr₂.isList (x₂.cell n c e)) (wordN_in n) (wordN_len n) fun s₃ m₃ vs x₃ kr₃ hm₃ pr₃ iv => ?_
  have kd₃ : KD L s.heap s₃.heap := KR.fresh kd₂ nr kr₃
  have lr₃ : LInts s₃.heap r (rowD (wordN n)) := ⟨vs.toList, by simpa using pr₃.isList, iv⟩
  refine wpAny_execs_cons ?_
  refine wpAny_Assign_Name ?_
  refine List_ (spliced_none ?_)
  refine wpAny_newList ?_ (by rw [sizeLine_eq]; exact Nat.zero_le _)
  have ng : s.heap.get? s₃.heap.objs.size = none := kd₃.none x₃ (Nat.le_refl _)
  have h0g : s₀.heap.objs.size ≤ s₃.heap.objs.size := x₃.lo
  have rg : r ≠ s₃.heap.objs.size := Nat.ne_of_lt (isList_lt pr₃.isList)
  have pg₃ : (s₃.heap.push (seqObj "list" #[] 0)).PlainList s₃.heap.objs.size #[] := ⟨0, Heap.get?_push_size _ rfl⟩
  have k₃ : Keeps s₃ { s₃ with heap := s₃.heap.push (seqObj "list" #[] 0) } := ⟨_, _, rfl, up_push _ _⟩
  generalize s₃.heap.objs.size = g at *
  have x₃' := x₃.to (KS.of_keeps k₃)
  refine x₃'.stc rfl rfl rfl fun s₄ x₄ c₄ => ?_
  have kd₄ : KD L s.heap s₄.heap := (kd₃.trans (KD.up (kup k₃))).trans (KD.ch3 c₄)
  have pg₄ : s₄.heap.PlainList g #[] := pg₃.at fun o e => c₄.up _ _ (list_ne_cell pg₃.isList (x₃'.cell (Str.ofString "rings") (L + 3) rfl)) e
  have lr₄ : LInts s₄.heap r (rowD (wordN n)) := ((KD.up (L := L) (kup k₃)).lk x₃ |>.trans ((KD.ch3 c₄).lk x₃')).ints lr₃
  obtain ⟨hrow, hcand⟩ := rowD_ok (wordN n)
  refine wpAny_execs_cons ?_
  refine due_rings (g := g) (rw := rowD (wordN n)) (hA.le (by decide)) X₀ x₄ ((hm₃ _ (by decide) (by decide)).trans rfl) (by rfl) lr₄ hrow pg₄ rg h0g fun s₅ m₅ vg x₅ kr₅ hm₅ pg₅ ig => ?_
  have kd₅ : KD L s.heap s₅.heap := KR.fresh kd₄ ng kr₅
  have lr₅ : LInts s₅.heap r (rowD (wordN n)) := kr₅.ints x₄ rg lr₄
  refine wpAny_execs_cons ?_
  refine due_times (vs := vg.toList) (R := ringsL (rowD (wordN n))) (hA.le (by decide)) X₀ x₅ (by rfl) (by simpa using pg₅.isList) ig (rings_len _) (rings_pos _) hcand fun s₆ t₆ x₆ kd₆ => ?_
  have kdA : KD L s.heap s₆.heap := kd₅.trans kd₆
  have pT₆ := kdA.plain x hT
  have pR₆ := kdA.plain x hR
  have lr₆ : LInts s₆.heap r (rowD (wordN n)) := (kd₆.lk x₅).ints lr₅
  have e5 : ∀ y : Str, y ≠ "times" → y ≠ "place" → y ≠ "ring" → y ≠ "letter" → y ≠ "row" → y ≠ "word" → (fun y : Str => if y = "times" then some (Value.int (timesD (ringsL (rowD (wordN n)))) t₆) else m₅ y) y = m y := fun y h1 h2 h3 h4 h5 h6 => by
    show (if y = "times" then _ else m₅ y) = _
    rw [if_neg h1, hm₅ y h2 h3, hm₃ y h2 h4]
    show (if y = "row" then _ else if y = "word" then _ else m y) = _
    rw [if_neg h5, if_neg h6]
  have eT₆ := (e5 "due" (by decide) (by decide) (by decide) (by decide) (by decide) (by decide)).trans eT
  have eR₆ := (e5 "rows" (by decide) (by decide) (by decide) (by decide) (by decide) (by decide)).trans eR
  have er₆ : (fun y : Str => if y = "times" then some (Value.int (timesD (ringsL (rowD (wordN n)))) t₆) else m₅ y) "row" = some (.ref r) := by
    show (if (Str.ofString "row") = "times" then _ else m₅ "row") = _
    rw [if_neg (by decide), hm₅ _ (by decide) (by decide), hm₃ _ (by decide) (by decide)]
    rfl
  refine wpAny_execs_cons ?_
  refine do_append (T := T) (by rfl) (by rfl) (by rfl) (by rfl) (fun Q' q => x₆.ld rfl rfl eT₆ q) pT₆ ?_
  refine List_ (spliced_more (x₆.ld rfl rfl er₆ ?_))
  refine spliced_more (x₆.ld rfl rfl er₆ ?_)
  refine spliced_more (x₆.ld (n := Str.ofString "times") rfl (by rfl) rfl (spliced_none ?_))
  refine wpAny_newObj_type ?_ (by show 3 ≤ sizeLine; rw [sizeLine_eq]; decide)
  have nt : s.heap.get? s₆.heap.objs.size = none := kdA.none x₆ (Nat.le_refl _)
  have lt₆ : (s₆.heap.push { cls := .type "list", data := .seq #[.ref r, .ref r, .int (timesD (ringsL (rowD (wordN n)))) t₆] }).IsList s₆.heap.objs.size #[.ref r, .ref r, .int (timesD (ringsL (rowD (wordN n)))) t₆] := ⟨_, Heap.get?_push_size _ rfl, rfl, _, rfl⟩
  have k₆ : Keeps s₆ { s₆ with heap := s₆.heap.push { cls := .type "list", data := .seq #[.ref r, .ref r, .int (timesD (ringsL (rowD (wordN n)))) t₆] } } := ⟨_, _, rfl, up_push _ _⟩
  have tT : s₆.heap.objs.size ≠ T := Nat.ne_of_gt (isList_lt pT₆.isList)
  have tR : s₆.heap.objs.size ≠ R := Nat.ne_of_gt (isList_lt pR₆.isList)
  generalize s₆.heap.objs.size = t at *
  have x₆' := x₆.to (KS.of_keeps k₆)
  have lk₆ := LK.up (kup k₆)
  refine ⟨ts, lk₆.plain pT₆, hts, fun h₇ pT₇ sb₇ => ?_⟩
  have c₇ : Ch T ({ s₆ with heap := s₆.heap.push { cls := .type "list", data := .seq #[.ref r, .ref r, .int (timesD (ringsL (rowD (wordN n)))) t₆] } } : Shared) { s₆ with heap := h₇ } := ⟨_, s₆.toks, rfl, fun b o hb e => (sb₇.2 b hb).trans e⟩
  have x₇ := x₆'.li (lk₆.plain pT₆).isList hT0 c₇
  have pR₇ : h₇.PlainList R rs := (lk₆.plain pR₆).at fun o e => c₇.up _ _ (Ne.symm hTR) e
  have lt₇ : h₇.IsList t _ := isList_at lt₆ fun o e => c₇.up _ _ tT e
  have lr₇ : LInts h₇ r (rowD (wordN n)) := let ⟨vs, i, q⟩ := lk₆.ints lr₆; ⟨vs, isList_at i fun o e => c₇.up _ _ (Ne.symm Tr) e, q⟩
  have X₇ := X₀.d x₇.ks.d
  refine wpAny_execs_cons ?_
  refine do_append (T := R) (by rfl) (by rfl) (by rfl) (by rfl) (fun Q' q => x₇.ld rfl rfl eR₆ q) pR₇ ?_
  refine Tuple_ (spliced_more (x₇.ld rfl rfl er₆ ?_))
  refine spliced_more ?_
  refine Call_ (bname X₇.1 (v := .builtin "len") (by kernel_rfl) (by kernel_rfl) (by decide) rfl rfl rfl rfl ?_)
  refine callWith_builtin1 (spliced_more (x₇.ld rfl rfl eR₆ (spliced_none ?_)))
  refine len_list pR₇.isList (by omega) ?_
  refine spliced_none ?_
  refine wpAny_newTuple ?_ (by rw [sizeLine_eq]; show 2 ≤ _; decide)
  have k₈ : Keeps ({ s₆ with heap := h₇ } : Shared) { s₆ with heap := h₇.push { cls := .type "tuple", data := .seq #[.ref r, .int rs.size (s₆.toks + 1)] }, toks := s₆.toks + 1 + 1 } := ⟨_, _, rfl, up_push _ _⟩
  have pp₈ : isTup (h₇.push { cls := .type "tuple", data := .seq #[.ref r, .int rs.size (s₆.toks + 1)] }) h₇.objs.size #[.ref r, .int rs.size (s₆.toks + 1)] := ⟨0, Heap.get?_push_size _ rfl⟩
  have pR : h₇.objs.size ≠ R := Nat.ne_of_gt (isList_lt pR₇.isList)
  have keepA : ∀ b o, b ≠ T → b ≠ L → b ≠ L + 1 → b ≠ L + 2 → b ≠ L + 3 → s.heap.get? b = some o → h₇.get? b = some o := fun b o hb a0 a1 a2 a3 e => c₇.up _ _ hb (kup k₆ _ _ (kdA b o a0 a1 a2 a3 e))
  have np : s.heap.get? h₇.objs.size = none := by
    cases q : s.heap.get? h₇.objs.size with
    | none => rfl
    | some o =>
      have n0 := none_size h₇ (Nat.le_refl _)
      have ne : ∀ {b o}, h₇.get? b = some o → h₇.objs.size ≠ b := fun e => by rintro rfl; rw [n0] at e; cases e
      have nc : ∀ n c, (dueE L).cells.lookup n = some c → h₇.objs.size ≠ c := fun n c hc => let ⟨o', e', _⟩ := x₇.cell n c hc; ne e'
      have nl : h₇.objs.size ≠ L := let ⟨o', _, _, e', _⟩ := x₇.ns; ne e'
      have nT : h₇.objs.size ≠ T := let ⟨_, e'⟩ := pT₇; ne e'
      rw [keepA _ o nT nl (nc (Str.ofString "letters") _ rfl) (nc (Str.ofString "n") _ rfl) (nc (Str.ofString "rings") _ rfl) q] at n0
      cases n0
  have x₈ := x₇.to (KS.of_keeps k₈)
  have lk₈ : LK h₇ _ := LK.up (kup k₈)
  refine ⟨rs, lk₈.plain pR₇, hrs, fun h₉ pR₉ sb₉ => ?_⟩
  have c₉ : Ch R ({ s₆ with heap := h₇.push { cls := .type "tuple", data := .seq #[.ref r, .int rs.size (s₆.toks + 1)] }, toks := s₆.toks + 1 + 1 } : Shared) { s₆ with heap := h₉, toks := s₆.toks + 1 + 1 } := ⟨h₉, _, rfl, fun b o hb e => (sb₉.2 b hb).trans e⟩
  have x₉ := x₈.li (lk₈.plain pR₇).isList hR0 c₉
  refine wpAny_execs_nil ?_
  refine hQ _ _ _ t r h₇.objs.size t₆ (s₆.toks + 1) x₉ (fun y h => ?_) eT₆ eR₆ ?_ ((lk₈.plain pT₇).at fun o e => c₉.up _ _ hTR e) pR₉ ?_ ?_ ?_ nt nr np
  · show (if y = "rings" then _ else cm y) = _
    rw [if_neg h]
  · intro b o hbT hbR a0 a1 a2 a3 e
    exact c₉.up _ _ hbR (kup k₈ _ _ (keepA b o hbT a0 a1 a2 a3 e))
  · exact isList_at (lk₈.list lt₇) fun o e => c₉.up _ _ tR e
  · exact pp₈.at fun o e => c₉.up _ _ pR e
  · obtain ⟨vs, i, q⟩ := lk₈.ints lr₇
    exact ⟨vs, isList_at i fun o e => c₉.up _ _ (Ne.symm Rr) e, q⟩
end
end Mine
end

section
open PySem PySem.W PySem.Calls PyProof.Rows
set_option maxRecDepth 100000
set_option linter.unusedVariables false
namespace Mine
/-- what is due of one number -/
noncomputable def DueAt (h : Heap) (ts rs : Array Value) (n : Int) (k : Nat) : Prop := ∃ t r p tm tr, ts[k]? = some (.ref t) ∧ rs[k]? = some (.ref p) ∧ h.IsList t #[.ref r, .ref r, .int (timesD (ringsL (rowD (wordN n)))) tm] ∧ isTup h p #[.ref r, .int (k : Nat) tr] ∧ LInts h r (rowD (wordN n))
noncomputable def Due (h : Heap) (T R : Addr) (ns : List Int) (i : Nat) : Prop := ∃ ts rs : Array Value, h.PlainList T ts ∧ h.PlainList R rs ∧ ts.size = i ∧ rs.size = i ∧ ∀ k < i, DueAt h ts rs (ns.getD k 0) k
theorem DueAt.keep {h h' : Heap} {T R : Addr} {ts rs : Array Value} {n : Int} {k : Nat} (x : DueAt h ts rs n k) (hT : h.PlainList T ts) (hR : h.PlainList R rs) (aT : ∀ (k : Nat) (v : Value), ts[k]? = some v → ∃ a, v = Value.ref a) (aR : ∀ (k : Nat) (v : Value), rs[k]? = some v → ∃ a, v = Value.ref a)
    (keep : ∀ b o, b ≠ T → b ≠ R → h.get? b = some o → (∃ vs n, o.data = .seq vs n) → h'.get? b = some o) : DueAt h' ts rs n k := by
  obtain ⟨t, r, p, tm, tr, e1, e2, e3, e4, e5⟩ := x
  refine ⟨t, r, p, tm, tr, e1, e2, ?_, ?_, ?_⟩
  · have n1 := list3_ne e3 hT.isList aT
    have n2 := list3_ne e3 hR.isList aR
    obtain ⟨o, e, c, m, d⟩ := e3
    exact ⟨o, keep _ _ n1 n2 e ⟨_, _, d⟩, c, m, d⟩
  · obtain ⟨m, e⟩ := e4
    have ne : ∀ {X : Addr} {vs : Array Value}, h.PlainList X vs → p ≠ X := fun px => by
      rintro rfl
      obtain ⟨_, px⟩ := px
      rw [px] at e
      injection e with e
      injection e with e
      injection e with e
      exact absurd e (by decide)
    exact ⟨m, keep _ _ (ne hT) (ne hR) e ⟨_, _, rfl⟩⟩
  · have n1 := ints_ne (by rw [rowD_len]; decide) e5 hT.isList (aT 0)
    have n2 := ints_ne (by rw [rowD_len]; decide) e5 hR.isList (aR 0)
    obtain ⟨vs, ⟨o, e, c, m, d⟩, q⟩ := e5
    exact ⟨vs, ⟨o, keep _ _ n1 n2 e ⟨_, _, d⟩, c, m, d⟩, q⟩
theorem dueRefs {h : Heap} {ts rs : Array Value} {ns : List Int} {i : Nat} (z1 : ts.size = i) (z2 : rs.size = i) (H : ∀ k < i, DueAt h ts rs (ns.getD k 0) k) :
    (∀ (k : Nat) (v : Value), ts[k]? = some v → ∃ a, v = Value.ref a) ∧ ∀ (k : Nat) (v : Value), rs[k]? = some v → ∃ a, v = Value.ref a := by
  constructor
  · intro k v e
    have hk : k < ts.size := (Array.getElem?_eq_some_iff.mp e).1
    obtain ⟨t, _, _, _, _, e1, _⟩ := H k (z1 ▸ hk)
    rw [e] at e1; cases e1; exact ⟨_, rfl⟩
  · intro k v e
    have hk : k < rs.size := (Array.getElem?_eq_some_iff.mp e).1
    obtain ⟨_, _, p, _, _, _, e1, _⟩ := H k (z2 ▸ hk)
    rw [e] at e1; cases e1; exact ⟨_, rfl⟩
theorem DueAt.push {h : Heap} {ts rs : Array Value} {n : Int} {k : Nat} {a b : Value} (x : DueAt h ts rs n k) (hk : k < ts.size) (hk' : k < rs.size) : DueAt h (ts.push a) (rs.push b) n k := by
  obtain ⟨t, r, p, tm, tr, e1, e2, q⟩ := x
  refine ⟨t, r, p, tm, tr, ?_, ?_, q⟩
  · rw [Array.getElem?_push, if_neg (by omega)]; exact e1
  · rw [Array.getElem?_push, if_neg (by omega)]; exact e2
theorem Due.lk {h h' : Heap} {T R : Addr} {ns : List Int} {i : Nat} (x : Due h T R ns i) (k : LK h h') : Due h' T R ns i := by
  obtain ⟨ts, rs, p1, p2, z1, z2, H⟩ := x
  obtain ⟨aT, aR⟩ := dueRefs z1 z2 H
  exact ⟨ts, rs, k.plain p1, k.plain p2, z1, z2, fun j hj => (H j hj).keep p1 p2 aT aR fun b o _ _ e d => k b o e d⟩
section
variable {w : World} {A : Around} {E : Value → Shared → Prop} {s s₀ : Shared} {L : Addr} {m cm : Str → Option Value}
theorem due_loop {lt T R l : Addr} {ns : List Int} {Q : Flow → Shared → Prop} (hA : Ar 5 A) (X₀ : TG w s₀.heap) (x : Fn s₀ (dueE L) m cm s) (en : m "numbers" = some (.ref l)) (el : cm "letters" = some (.ref lt)) (hlt : LStr s.heap lt lettersN) (eT : m "due" = some (.ref T)) (eR : m "rows" = some (.ref R))
    (hT : s.heap.PlainList T #[]) (hR : s.heap.PlainList R #[]) (hTR : T ≠ R) (hT0 : s₀.heap.objs.size ≤ T) (hR0 : s₀.heap.objs.size ≤ R) (hl : LInts s.heap l ns) (hn : ns.length ≤ 1000) (hlT : l ≠ T) (hlR : l ≠ R) (htT : lt ≠ T) (htR : lt ≠ R)
    (hQ : ∀ s' m' cm', Fn s₀ (dueE L) m' cm' s' → m' "due" = some (.ref T) → m' "rows" = some (.ref R) → Due s'.heap T R ns ns.length → Q .next s') :
    wpAny (model prg w) A (exec dFor (dueE L)) Q E s := by
  refine wpAny_For ?_
  obtain ⟨vl, il, iv⟩ := hl
  have hvl := iv.length
  refine x.ld rfl rfl en ?_
  refine iterF_list il _ _ fun o St W ho st0 => ?_
  have W' := W A hA.hh
  have kp : Keeps s { s with heap := s.heap.push o } := ⟨_, _, rfl, up_push _ _⟩
  have hI0 : s₀.heap.objs.size ≤ s.heap.objs.size := x.lo
  refine for_gen W' (fun i s' => ∃ m cm ts rs, Fn s₀ (dueE L) m cm s' ∧ cm "letters" = some (.ref lt) ∧ LStr s'.heap lt lettersN ∧ m "due" = some (.ref T) ∧ m "rows" = some (.ref R) ∧ s'.heap.PlainList T ts ∧ s'.heap.PlainList R rs ∧ ts.size = i ∧ rs.size = i ∧ s'.heap.IsList l vl.toArray ∧ ∀ k < i, DueAt s'.heap ts rs (ns.getD k 0) k) ?_ ?_ ?_ ?_ ?_
  · rintro i s₁ h' tk ⟨m, cm, ts, rs, x₁, e0, ls, e1, e2, p1, p2, z1, z2, il1, H⟩ hst kk
    have ow := W'.own _ _ hst
    have lk : LK s₁.heap h' := fun b o e d => kk b o (by
      rintro rfl
      obtain ⟨o', vs, e', d', _⟩ := ow
      rw [e] at e'; cases e'
      obtain ⟨_, _, d⟩ := d
      rw [d] at d'; cases d') e
    obtain ⟨aT, aR⟩ := dueRefs z1 z2 H
    exact ⟨m, cm, ts, rs, x₁.it ow hI0 ⟨_, _, rfl, kk⟩, e0, (let ⟨vs, i, q⟩ := ls; ⟨vs, lk.list i, q⟩), e1, e2, lk.plain p1, lk.plain p2, z1, z2, lk.list il1, fun k hk => (H k hk).keep p1 p2 aT aR fun b o _ _ e d => lk b o e d⟩
  · rintro i v s₁ hi hp ⟨m, cm, ts, rs, x₁, e0, ls, e1, e2, p1, p2, z1, z2, il1, H⟩ hst
    obtain ⟨n, tn, rfl, hn1, hn2⟩ : ∃ n t, v = Value.int n t ∧ i < ns.length ∧ ns.getD i 0 = n := by
      have hi' : i < ns.length := by omega
      obtain ⟨t, et⟩ := ints_getD iv hi'
      rw [List.getD_eq_getElem?_getD, hp] at et
      exact ⟨_, t, et, hi', rfl⟩
    refine wpAny_assign_Name ?_
    refine x₁.stc rfl rfl rfl fun s₂ x₂ c₂ => ?_
    have lk2 : LK s₁.heap s₂.heap := (KD.ch2 c₂).lk x₁
    obtain ⟨aT, aR⟩ := dueRefs z1 z2 H
    have H2 : ∀ k < i, DueAt s₂.heap ts rs (ns.getD k 0) k := fun k hk => (H k hk).keep p1 p2 aT aR fun b o _ _ e d => lk2 b o e d
    have ls2 : LStr s₂.heap lt lettersN := let ⟨vs, i, q⟩ := ls; ⟨vs, lk2.list i, q⟩
    have p1' := lk2.plain p1
    have p2' := lk2.plain p2
    refine due_turn (n := n) hA X₀ x₂ (by exact e0) ls2 (by rfl) e1 e2 p1' p2' hTR hT0 hR0 (by omega) (by omega) fun s₃ m₃ cm₃ t r p tm tr x₃ hcm₃ f1 f2 k2 q1 q2 q3 q4 q5 ft fr fp => ?_
    have kget : ∀ b o, b ≠ T → b ≠ R → s₂.heap.get? b = some o → (∃ vs n, o.data = .seq vs n) → s₃.heap.get? b = some o := fun b o n1 n2 e d => let ⟨a0, a1, a2, a3⟩ := x₂.ne4 e (.inl d); k2 b o n1 n2 a0 a1 a2 a3 e
    have H3 : ∀ k < i, DueAt s₃.heap ts rs (ns.getD k 0) k := fun k hk => (H2 k hk).keep p1' p2' aT aR kget
    refine ⟨⟨m₃, cm₃, ts.push (.ref t), rs.push (.ref p), x₃, (hcm₃ _ (by decide)).trans e0, ?_, f1, f2, q1, q2, by simp [z1], by simp [z2], ?_, fun k hk => ?_⟩, ?_⟩
    · obtain ⟨vs, ⟨o, e, c, n', d⟩, q⟩ := ls2
      exact ⟨vs, ⟨o, kget _ _ htT htR e ⟨_, _, d⟩, c, n', d⟩, q⟩
    · obtain ⟨ol, el, cl, nl, dl⟩ := lk2.list il1
      exact ⟨ol, kget _ _ hlT hlR el ⟨_, _, dl⟩, cl, nl, dl⟩
    · rcases Nat.lt_succ_iff_lt_or_eq.mp hk with hk | rfl
      · exact (H3 k hk).push (by omega) (by omega)
      · refine ⟨t, r, p, tm, tr, ?_, ?_, by rw [hn2]; exact q3, by rw [← z2]; exact q4, by rw [hn2]; exact q5⟩
        · rw [Array.getElem?_push, if_pos (by omega)]
        · rw [Array.getElem?_push, if_pos (by omega)]
    · refine W'.frame _ _ _ hst fun b hb o e hd => ?_
      have dd : (∃ vs n, o.data = .seq vs n) ∨ (∃ vs, o.data = .fields vs) := hd.elim .inr .inl
      have e2 := (KD.ch2 c₂).get x₁ e dd
      have nb : b ≠ T ∧ b ≠ R := by
        simp only [List.mem_cons, List.not_mem_nil, or_false] at hb
        rcases hb with rfl | rfl
        · have fI := W'.own _ _ hst
          exact ⟨(fI.ne_list p1.isList).symm, (fI.ne_list p2.isList).symm⟩
        · exact ⟨hlT, hlR⟩
      obtain ⟨a0, a1, a2, a3⟩ := x₂.ne4 e2 dd
      exact k2 b o nb.1 nb.2 a0 a1 a2 a3 e2
  · rintro s₁ ⟨m, cm, ts, rs, x₁, e0, ls, e1, e2, p1, p2, z1, z2, il1, H⟩
    rw [hvl] at z1 z2
    exact hQ s₁ m cm x₁ e1 e2 ⟨ts, rs, p1, p2, z1, z2, fun k hk => H k (by rw [hvl]; exact hk)⟩
  · have lk : LK s.heap (s.heap.push o) := LK.up (up_push _ _)
    exact ⟨m, cm, #[], #[], x.to (KS.of_keeps kp), el, (let ⟨vs, i, q⟩ := hlt; ⟨vs, lk.list i, q⟩), eT, eR, lk.plain hT, lk.plain hR, rfl, rfl, lk.list il, fun k hk => absurd hk (Nat.not_lt_zero _)⟩
  · exact st0
end
end Mine
end

section
open PySem PySem.W PySem.Calls PyProof.Rows PySem.Spec PySem.SeqAt
set_option maxRecDepth 100000
set_option linter.unusedVariables false
namespace Mine
/-- the order of two rows of one length -/
noncomputable def lexLt : List Int → List Int → Bool
  | x :: xs, y :: ys => if x = y then lexLt xs ys else decide (x < y)
  | _, _ => false
theorem lexLt_cmp : ∀ (a b : List Int), lexLt a b = decide (cmpL a b < 0)
  | x :: xs, y :: ys => by
    rw [lexLt, cmpL]
    split
    · exact lexLt_cmp xs ys
    · exact decide_eq_decide.mpr (by omega)
  | [], _ => rfl
  | _ :: _, [] => rfl
theorem lt_meets (a b : Int) (t u : Tok) {prog : Program} {w : World} {A : Around} {E : Value → Shared → Prop} {s : Shared} {Q : Value → Shared → Prop} (h : Q (.bool (decide (a < b))) s) : wpAny (model prog w) A (richCompare .Lt (.int a t) (.int b u)) Q E s :=
  show wpAny (model prog w) A (compareOp .Lt (.int a t) (.int b u)) Q E s from PyProof.Rows.lt_int h
open MeetsSeq MeetsSeq3 AutoSeq1 in
theorem lt_loop (l b : Addr) (items items2 : Array Value) (n n2 : Nat) (dd dd2 : Option Addr) (sl sl2 : Array (Option Value)) (na nb : List Int) (hl : na.length = nb.length) (ha : IntsAre items.toList na) (hb : IntsAre items2.toList nb) (k : Nat) :
    ∀ i : Nat, items.size - i = k → Meets (Builtin.«list.__eq__.loop» ⟨[.ref l, .ref b, rawInt i, rawInt 0], []⟩)
      (fun _ R s => s.heap.get? l = some { cls := .type "list", dict := dd, data := .seq items n, slots := sl } ∧ s.heap.get? b = some { cls := .type "list", dict := dd2, data := .seq items2 n2, slots := sl2 } ∧
        R (.ok (.ret (.bool (lexLt (na.drop i) (nb.drop i))))) s) := by
  have z1 : items.size = na.length := by simpa using ha.length
  have z2 : items2.size = nb.length := by simpa using hb.length
  induction k with
  | zero =>
    intro i hk prog w A R s h
    obtain ⟨hp, g, d, tk, os⟩ := s; obtain ⟨hl', hb', h⟩ := h
    wp_walk using wpAny_loadPart' hl', wpAny_loadPart' hb'
    have hi1 : items[((i : Nat) : Int).toNat]? = none := by simp; omega
    have hi2 : items2[((i : Nat) : Int).toNat]? = none := by simp; omega
    rw [hi1, hi2]
    wp_walk using wpAny_loadPart' hl', wpAny_loadPart' hb'
    rw [List.drop_eq_nil_of_le (by omega)] at h
    show R (.ok (.ret (.bool (decide (items.size < items2.size))))) _
    rw [decide_eq_false (by omega)]
    exact h
  | succ k ih =>
    intro i hk prog w A R s h
    obtain ⟨hp, g, d, tk, os⟩ := s; obtain ⟨hl', hb', h⟩ := h
    wp_walk using wpAny_loadPart' hl', wpAny_loadPart' hb'
    have hlt : i < items.size := by omega
    have hlt2 : i < items2.size := by omega
    obtain ⟨t, et⟩ := ints_getD ha (k := i) (by omega)
    obtain ⟨u, eu⟩ := ints_getD hb (k := i) (by omega)
    have hi1 : items[((i : Nat) : Int).toNat]? = some (.int (na.getD i 0) t) := by
      rw [← et]; simp [hlt]
    have hi2 : items2[((i : Nat) : Int).toNat]? = some (.int (nb.getD i 0) u) := by
      rw [← eu]; simp [hlt2]
    have d1 : na.drop i = na.getD i 0 :: na.drop (i + 1) := by
      rw [List.drop_eq_getElem_cons (by omega), List.getD_eq_getElem?_getD, List.getElem?_eq_getElem (by omega)]; rfl
    have d2 : nb.drop i = nb.getD i 0 :: nb.drop (i + 1) := by
      rw [List.drop_eq_getElem_cons (by omega), List.getD_eq_getElem?_getD, List.getElem?_eq_getElem (by omega)]; rfl
    have hc : ((i : Int) + 1) = ((i + 1 : Nat) : Int) := by push_cast; rfl
    rw [d1, d2, lexLt] at h
    rw [hi1, hi2]
    refine wpAny_bind (wpAny_eqBool_int ?_)
    by_cases hq : na.getD i 0 = nb.getD i 0
    · rw [show (na.getD i 0 == nb.getD i 0) = true by simpa using hq]
      rw [if_pos hq] at h
      wp_walk
      rw [hc]
      exact ⟨plainId_quiet plain_eq_loop _, codeAny_builtin entry_eq_loop (by
        rw [Around.under_plainId plain_eq_loop _]
        exact ih (i + 1) (by omega) prog w A R _ ⟨hl', hb', h⟩)⟩
    · rw [show (na.getD i 0 == nb.getD i 0) = false by simpa using hq]
      rw [if_neg hq] at h
      wp_walk using wpAny_loadPart' hl', wpAny_loadPart' hb'
      rw [hi1, hi2]
      refine wpAny_bind (lt_meets _ _ _ _ ?_)
      wp_walk
      exact h
open MeetsSeq MeetsSeq3 AutoSeq1 in
theorem list_lt (l b : Addr) (items items2 : Array Value) (n n2 : Nat) (dd dd2 : Option Addr) (sl sl2 : Array (Option Value)) (na nb : List Int) (hl : na.length = nb.length) (ha : IntsAre items.toList na) (hb : IntsAre items2.toList nb) :
    Meets (Builtin.«list.__lt__» ⟨[.ref l, .ref b], []⟩)
      (fun _ R s => s.heap.get? l = some { cls := .type "list", dict := dd, data := .seq items n, slots := sl } ∧ s.heap.get? b = some { cls := .type "list", dict := dd2, data := .seq items2 n2, slots := sl2 } ∧ R (.ok (.ret (.bool (lexLt na nb)))) s) := by
  intro prog w A R s h
  obtain ⟨hp, g, d, tk, os⟩ := s; obtain ⟨hl', hb', h⟩ := h
  have f3 := AutoSeq1.sub_list_list
  wp_walk using wpAny_loadPart' hl', wpAny_loadPart' hb'
  exact ⟨plainId_quiet plain_eq_loop _, codeAny_builtin entry_eq_loop (by
    rw [Around.under_plainId plain_eq_loop _]
    exact lt_loop l b items items2 n n2 dd dd2 sl sl2 na nb hl ha hb _ 0 rfl prog w A R _ ⟨hl', hb', h⟩)⟩
section
variable {w : World} {A : Around} {E : Value → Shared → Prop} {s : Shared}
/-- the sort's question of two rows -/
theorem one_lt {l b : Addr} {na nb : List Int} {Q : Bool → Shared → Prop} (hu : A.units + 64 < cLine) (ha : LInts s.heap l na) (hb : LInts s.heap b nb) (hl : na.length = nb.length) (h : Q (lexLt na nb) s) : wpAny (model prg w) A (oneLt' true (.ref l) (.ref b)) Q E s := by
  obtain ⟨va, ⟨oa, ea, ca, n, da⟩, ia⟩ := ha
  obtain ⟨vb, ⟨ob, eb, cb, n2, db⟩, ib⟩ := hb
  obtain ⟨c1, d1, t1, s1⟩ := oa
  obtain ⟨c2, d2, t2, s2⟩ := ob
  cases ca; cases cb; cases da; cases db
  rw [oneLt'_eq]
  simp only [if_true]
  refine wpAny_bind (wpAny_cRoomFor (by omega) ?_)
  refine wpAny_bind (wpAny_callSpecialIfBound?_slot ⟨_, ea, rfl⟩ (F.slot_list_lt) (call_meets F.slot_list_lt ⟨_, ea, rfl⟩ F.entry_list_lt (F.args_list_lt_2 _ _) (list_lt l b va.toArray vb.toArray n n2 _ _ _ _ na nb hl (by simpa using ia) (by simpa using ib)) ⟨ea, eb, ?_⟩))
  exact wpAny_truthy_bool h
theorem eq_rows {l b : Addr} {na nb : List Int} {Q : Bool → Shared → Prop} (hu : A.units + 64 < cLine) (ha : LInts s.heap l na) (hb : LInts s.heap b nb) (h : Q (decide (na = nb)) s) : wpAny (model prg w) A (eqBool (.ref l) (.ref b)) Q E s := by
  obtain ⟨va, ia, ra⟩ := ha
  obtain ⟨vb, ib, rb⟩ := hb
  refine eqAt_reads _ _ A s _ _ _ _ (reads_of_ints ia ra) (reads_of_ints ib rb) (by simp only [PyData.canLay0]; exact canLayAll0_ints na) (by simp only [PyData.canLay0]; exact canLayAll0_ints nb) ?_ _ _ _ _ ?_
  · have h1 := W.depthAll_ints na
    have h2 := W.depthAll_ints nb
    simp only [PyData.depth]
    omega
  · rw [← same_eq_eqv _ _ (by simp only [noMix]; exact noMix_ints na nb)]
    simp only [PySem.Spec.same]
    rw [same_ints]
    exact h
end
end Mine
end

section
open PySem PySem.W PySem.W.X PySem.Calls PyProof.Rows
set_option maxRecDepth 100000
set_option linter.unusedVariables false
namespace Mine
/-- a small runner of trees, for written objects at addresses that are letters: its hints say where a load finds its object -/
inductive Kt (α : Type) where
  | out
  | base (k : Result → Sem α)
  | ret (c : Code) (hd : Option Value) (k : Result → Sem PySem.Fin) (κ : Kt α)
inductive St (α : Type) where
  | out (r : Result)
  | top (t : Sem α)
  | sub (t : Sem PySem.Fin) (c : Code) (hd : Option Value) (κ : Kt α)
noncomputable abbrev Ob := List (Addr × Obj)
structure Ou (α : Type) where
  st : St α
  own : Ob
  m : Nat
  t : Nat
  l : List Addr
  r : List Addr
noncomputable def back {α : Type} : Kt α → Result → St α
  | .out, r => .out r
  | .base k, r => .top (k r)
  | .ret c hd k κ, r => .sub (k r) c hd κ
noncomputable def pick (K own : Ob) (i : Nat) : Option (Addr × Obj) := match Nat.ble 1000 i with
  | true => K[i - 1000]?
  | false => own[i]?
noncomputable abbrev Rec (α : Type) := List Nat → St α → Ob → Nat → Nat → List Addr → List Addr → Option (Ou α)
noncomputable def nxt {α β : Type} (dn : Code → Sem PySem.Fin) (sg : Setting) (n tk : Nat) (K : Ob) (put : Sem β → St α) (kk : (Result → Sem β) → Kt α) (pu : β → List Nat → Ob → Nat → Nat → List Addr → List Addr → Option (Ou α)) (ra : Value → Option (St α)) (rec : Rec α) :
    List Nat → Sem β → Ob → Nat → Nat → List Addr → List Addr → Option (Ou α) := fun hs t own m ti l r => match t with
  | .pure a => pu a hs own m ti l r
  | .raise e => match ra e with
    | some st => rec hs st own m ti l r
    | none => none
  | .rule _ k => rec hs (put (k ())) own m ti l r
  | .at _ k => rec hs (put (k ())) own m ti l r
  | .point _ k => rec hs (put (k ())) own m ti l r
  | .ask k => rec hs (put (k sg)) own m ti l r
  | .fresh k => rec hs (put (k (tk + ti))) own m (ti + 1) l r
  | .load a q k => match hs with
    | [] => some ⟨put (.load a q k), own, m, ti, l, r⟩
    | i :: hs => match Nat.ble 2000 i with
      | true => match pick K own (i - 2000) with
        | some p => some ⟨put (k p.2), own, m, ti, a :: l, p.1 :: r⟩
        | none => none
      | false => match pick K own i with
        | some p => rec hs (put (k p.2)) own m ti (a :: l) (p.1 :: r)
        | none => none
  | .alloc o k => match o.isFreed with
    | true => none
    | false => match hs with
      | [4000] => some ⟨put (k (n + m)), own ++ [(n + m, o)], m + 1, ti, l, r⟩
      | hs => rec hs (put (k (n + m))) (own ++ [(n + m, o)]) (m + 1) ti l r
  | .update a q f k => match hs with
    | [] => some ⟨put (.update a q f k), own, m, ti, l, r⟩
    | i :: hs => match own[i]? with
      | some p => match (f p.2).isFreed with
        | true => none
        | false => rec hs (put (k ())) (own.set i (p.1, f p.2)) m ti (a :: l) (p.1 :: r)
      | none => none
  | .call c hd g lv k => match hs with
    | [] => some ⟨put (.call c hd g lv k), own, m, ti, l, r⟩
    | _ :: hs => match hd with
      | none => rec hs (.sub (dn c) c none (kk k)) own m ti l r
      | some _ => none
  | _ => none
noncomputable def goD {α : Type} (dn : Code → Sem PySem.Fin) (sg : Setting) (n tk : Nat) (K : Ob) : Nat → Rec α
  | 0 => fun _ _ _ _ _ _ _ => none
  | f + 1 => fun hs st own m ti l r => match st with
    | .out q => some ⟨.out q, own, m, ti, l, r⟩
    | .top t => nxt dn sg n tk K .top .base (fun a _ own m ti l r => some ⟨.top (.pure a), own, m, ti, l, r⟩) (fun _ => none) (goD dn sg n tk K f) hs t own m ti l r
    | .sub t c hd κ => nxt dn sg n tk K (fun t => .sub t c hd κ) (fun k => .ret c hd k κ)
        (fun fin hs own m ti l r => match fin with
          | .done fl => goD dn sg n tk K f hs (back κ (.ok fl)) own m ti l r
          | .again c' => match c'.quiet with
            | true => goD dn sg n tk K f hs (.sub (dn c') c' hd κ) own m ti l r
            | false => none)
        (fun e => some (back κ (.error e))) (goD dn sg n tk K f) hs t own m ti l r

noncomputable abbrev go {α : Type} (sg : Setting) (n tk : Nat) (K : Ob) : Nat → Rec α := goD (denote table) sg n tk K
structure Mm (T : List Addr) (h₀ h : Heap) (K own : Ob) : Prop where
  ow : ∀ p ∈ own, h.get? p.1 = some p.2
  nd : (own.map (·.1)).Nodup
  kn : ∀ p ∈ K, h.get? p.1 = some p.2 ∧ ∀ q ∈ own, q.1 ≠ p.1
  keep : ∀ b o, h₀.get? b = some o → (∀ q ∈ own, q.1 ≠ b) → h.get? b = some o
  fr : ∀ q ∈ own, q.1 ∈ T ∨ h₀.get? q.1 = none
theorem Mm.none {T : List Addr} {h₀ h : Heap} {K own : Ob} (D : Mm T h₀ h K own) {b : Addr} (e : h.get? b = none) : h₀.get? b = none := by
  cases q : h₀.get? b with
  | none => rfl
  | some o =>
    by_cases hb : ∃ q ∈ own, q.1 = b
    · obtain ⟨x, hx, rfl⟩ := hb
      rw [D.ow x hx] at e; cases e
    · rw [D.keep b o q fun x hx hxb => hb ⟨x, hx, hxb⟩] at e; cases e
theorem Mm.kp {h₀ h : Heap} {K own : Ob} (D : Mm tabs3 h₀ h K own) : Kp h₀ h := fun b o e hb => D.keep b o e fun q hq hqb => by
  rcases D.fr q hq with h | h
  · exact hb (hqb ▸ h)
  · rw [hqb, e] at h; cases h
theorem Mm.pick {T : List Addr} {h₀ h : Heap} {K own : Ob} (D : Mm T h₀ h K own) {i : Nat} {p : Addr × Obj} (e : pick K own i = some p) : h.get? p.1 = some p.2 := by
  unfold Mine.pick at e
  split at e
  · exact (D.kn p (List.mem_of_getElem? e)).1
  · exact D.ow p (List.mem_of_getElem? e)
theorem Mm.alloc {T : List Addr} {h₀ h : Heap} {K own : Ob} (D : Mm T h₀ h K own) {o : Obj} (hf : o.isFreed = false) : Mm T h₀ (h.push o) K (own ++ [(h.objs.size, o)]) := by
  have nw : ∀ b ob, h.get? b = some ob → h.objs.size ≠ b := fun b ob e => Nat.ne_of_gt (Heap.lt_size e)
  refine ⟨fun p hp => ?_, ?_, fun p hp => ⟨Heap.get?_push_of_some _ (D.kn p hp).1, fun q hq => ?_⟩, fun b ob e hb => Heap.get?_push_of_some _ (D.keep b ob e fun q hq => hb q (List.mem_append_left _ hq)), fun q hq => ?_⟩
  · rcases List.mem_append.mp hp with hp | hp
    · exact Heap.get?_push_of_some _ (D.ow p hp)
    · simp only [List.mem_cons, List.not_mem_nil, or_false] at hp
      subst hp
      exact Heap.get?_push_size _ hf
  · rw [List.map_append, List.nodup_append]
    refine ⟨D.nd, by simp, fun a ha b hb => ?_⟩
    obtain ⟨p, hp, rfl⟩ := List.mem_map.mp ha
    simp only [List.map_cons, List.map_nil, List.mem_cons, List.not_mem_nil, or_false] at hb
    subst hb
    exact (nw _ _ (D.ow p hp)).symm
  · rcases List.mem_append.mp hq with hq | hq
    · exact (D.kn p hp).2 q hq
    · simp only [List.mem_cons, List.not_mem_nil, or_false] at hq
      subst hq
      exact nw _ _ (D.kn p hp).1
  · rcases List.mem_append.mp hq with hq | hq
    · exact D.fr q hq
    · simp only [List.mem_cons, List.not_mem_nil, or_false] at hq
      subst hq
      exact .inr (D.none (none_size _ (Nat.le_refl _)))
theorem Mm.update {T : List Addr} {h₀ h : Heap} {K own : Ob} (D : Mm T h₀ h K own) {i : Nat} {p : Addr × Obj} {f : Obj → Obj} (e : own[i]? = some p) (hf : (f p.2).isFreed = false) : Mm T h₀ (h.update p.1 f) K (own.set i (p.1, f p.2)) := by
  have hp := D.ow p (List.mem_of_getElem? e)
  have hs : Heap.SameBut p.1 h (h.update p.1 f) := Heap.SameBut.update ..
  have ge : (h.update p.1 f).get? p.1 = some (f p.2) := by first | exact Heap.get?_update_self f hp hf | exact Heap.get?_update_self _ hp hf
  have em : (own.set i (p.1, f p.2)).map (·.1) = own.map (·.1) := by
    rw [List.map_set]
    refine List.ext_getElem? fun j => ?_
    rw [List.getElem?_set]
    split
    · rename_i hj
      subst hj
      obtain ⟨hl, he⟩ := List.getElem?_eq_some_iff.mp e
      rw [List.length_map, if_pos hl, List.getElem?_map, e]; rfl
    · rfl
  have mem : ∀ q ∈ own.set i (p.1, f p.2), ∃ q' ∈ own, q'.1 = q.1 := fun q hq => by
    have : q.1 ∈ own.map (·.1) := em ▸ List.mem_map_of_mem hq
    obtain ⟨q', h1, h2⟩ := List.mem_map.mp this
    exact ⟨q', h1, h2⟩
  refine ⟨fun q hq => ?_, by rw [em]; exact D.nd, fun q hq => ⟨(hs.2 _ ((D.kn q hq).2 p (List.mem_of_getElem? e)).symm).trans (D.kn q hq).1, fun q' hq' => ?_⟩, fun b ob eb hb => ?_, fun q hq => ?_⟩
  · by_cases hqp : q.1 = p.1
    · obtain ⟨j, hj⟩ := List.mem_iff_getElem?.mp hq
      rw [List.getElem?_set] at hj
      split at hj
      · split at hj
        · cases hj; exact ge
        · cases hj
      · rename_i hij
        exfalso
        have n1 : (own.map (·.1))[i]? = some p.1 := by rw [List.getElem?_map, e]; rfl
        have n2 : (own.map (·.1))[j]? = some p.1 := by rw [List.getElem?_map, hj, ← hqp]; rfl
        obtain ⟨l1, e1⟩ := List.getElem?_eq_some_iff.mp n1
        obtain ⟨l2, e2⟩ := List.getElem?_eq_some_iff.mp n2
        have ne := fun (i j : Nat) (l1 : i < (own.map (·.1)).length) (l2 : j < (own.map (·.1)).length) (lt : i < j) => (List.pairwise_iff_getElem.mp D.nd) i j l1 l2 lt
        rcases Nat.lt_trichotomy i j with lt | lt | lt
        · exact ne i j l1 l2 lt (e1.trans e2.symm)
        · exact hij lt
        · exact ne j i l2 l1 lt (e2.trans e1.symm)
    · obtain ⟨j, hj⟩ := List.mem_iff_getElem?.mp hq
      rw [List.getElem?_set] at hj
      split at hj
      · split at hj
        · cases hj; exact absurd rfl hqp
        · cases hj
      · exact (hs.2 _ hqp).trans (D.ow q (List.mem_of_getElem? hj))
  · obtain ⟨q2, h1, h2⟩ := mem q' hq'
    rw [← h2]; exact (D.kn q hq).2 q2 h1
  · have hne : b ≠ p.1 := by
      have : p.1 ∈ (own.set i (p.1, f p.2)).map (·.1) := em ▸ List.mem_map_of_mem (List.mem_of_getElem? e)
      obtain ⟨q', h1, h2⟩ := List.mem_map.mp this
      rintro rfl
      exact hb q' h1 h2
    refine (hs.2 b hne).trans (D.keep b ob eb fun q hq => ?_)
    have : q.1 ∈ (own.set i (p.1, f p.2)).map (·.1) := em ▸ List.mem_map_of_mem hq
    obtain ⟨q', h1, h2⟩ := List.mem_map.mp this
    rw [← h2]; exact hb q' h1
  · obtain ⟨q2, h1, h2⟩ := mem q hq
    rw [← h2]; exact D.fr q2 h1

section
variable {α : Type} (w : World) (A : Around) (Z : Result → Shared → Prop) (Q : α → Shared → Prop) (E : Value → Shared → Prop)
noncomputable def arK : Kt α → Around
  | .out => A
  | .base _ => A
  | .ret c hd _ κ => ((arK κ).mark hd).under c
noncomputable def finP (B : Around) (R : Result → Shared → Prop) : PySem.Fin → Shared → Prop := fun fin s' => match fin with
  | .done f => R (.ok f) s'
  | .again c' => c'.quiet = true ∧ codeAny (model prg w) B c' R s'
noncomputable def resK : Kt α → Result → Shared → Prop
  | .out => Z
  | .base k => fun r s => wpAny (model prg w) A (k r) Q E s
  | .ret c hd k κ => fun r s => wpAny (model prg w) (((arK A κ).mark hd).under c) (k r) (finP w ((arK A κ).mark hd) (resK κ)) (fun e s' => resK κ (.error e) s') s
noncomputable def means : St α → Shared → Prop
  | .out r => Z r
  | .top t => wpAny (model prg w) A t Q E
  | .sub t c hd κ => wpAny (model prg w) (((arK A κ).mark hd).under c) t (finP w ((arK A κ).mark hd) (resK w A Z Q E κ)) (fun e s' => resK w A Z Q E κ (.error e) s')
theorem means_back (κ : Kt α) (r : Result) (s : Shared) : means w A Z Q E (back κ r) s = resK w A Z Q E κ r s := by cases κ <;> rfl
end
/-- the equations at the end hold those before -/
noncomputable def Suf {α : Type} (rec : Rec α) : Prop := ∀ hs st own m ti l r out, rec hs st own m ti l r = some out → out.l = out.r → l.length = r.length → l = r
theorem nxt_suf {α β : Type} {dn : Code → Sem PySem.Fin} {sg : Setting} {n tk : Nat} {K : Ob} {put : Sem β → St α} {kk : (Result → Sem β) → Kt α} {pu ra} {rec : Rec α} (R : Suf rec)
    (P : ∀ a hs own m ti l r out, pu a hs own m ti l r = some out → out.l = out.r → l.length = r.length → l = r) {hs t own m ti l r out}
    (h : nxt dn sg n tk K put kk pu ra rec hs t own m ti l r = some out) (he : out.l = out.r) (hl : l.length = r.length) : l = r := by
  cases t <;> simp only [nxt] at h <;> first | (exact absurd h (by simp)) | skip
  · exact P _ _ _ _ _ _ _ _ h he hl
  · split at h
    · exact R _ _ _ _ _ _ _ _ h he hl
    · cases h
  · exact R _ _ _ _ _ _ _ _ h he hl
  · exact R _ _ _ _ _ _ _ _ h he hl
  · split at h
    · cases h; exact he
    · split at h
      · split at h
        · cases h; exact (List.cons.inj he).2
        · cases h
      · split at h
        · exact (List.cons.inj (R _ _ _ _ _ _ _ _ h he (by simp [hl]))).2
        · cases h
  · split at h
    · cases h; exact he
    · split at h
      · split at h
        · cases h
        · exact (List.cons.inj (R _ _ _ _ _ _ _ _ h he (by simp [hl]))).2
      · cases h
  · split at h
    · cases h
    · split at h
      · cases h; exact he
      · exact R _ _ _ _ _ _ _ _ h he hl
  · exact R _ _ _ _ _ _ _ _ h he hl
  · exact R _ _ _ _ _ _ _ _ h he hl
  · exact R _ _ _ _ _ _ _ _ h he hl
  · split at h
    · cases h; exact he
    · split at h
      · exact R _ _ _ _ _ _ _ _ h he hl
      · cases h
theorem go_suf {α : Type} {dn : Code → Sem PySem.Fin} {sg : Setting} {n tk : Nat} {K : Ob} : ∀ f : Nat, Suf (α := α) (goD dn sg n tk K f)
  | 0 => fun _ _ _ _ _ _ _ _ h => by cases h
  | f + 1 => fun hs st own m ti l r out h he hl => by
    have IH := go_suf (α := α) (dn := dn) (sg := sg) (n := n) (tk := tk) (K := K) f
    cases st with
    | out q => simp only [goD] at h; cases h; exact he
    | top t =>
      simp only [goD] at h
      exact nxt_suf IH (fun a hs own m ti l r out h he hl => by cases h; exact he) h he hl
    | sub t c hd κ =>
      simp only [goD] at h
      refine nxt_suf IH (fun a hs own m ti l r out h he hl => ?_) h he hl
      cases a with
      | done fl => exact IH _ _ _ _ _ _ _ _ h he hl
      | again c' =>
        dsimp only at h
        split at h
        · exact IH _ _ _ _ _ _ _ _ h he hl
        · cases h
section
variable {w : World} {α : Type} {A : Around} {Z : Result → Shared → Prop} {Q : α → Shared → Prop} {E : Value → Shared → Prop} {T : List Addr} {h₀ : Heap} {g : Array GenState} {d : Drawn} {os : OsState} {n tk : Nat} {K : Ob}
noncomputable def Snd (w : World) (A : Around) (Z : Result → Shared → Prop) (Q : α → Shared → Prop) (E : Value → Shared → Prop) (T : List Addr) (h₀ : Heap) (g : Array GenState) (d : Drawn) (os : OsState) (n tk : Nat) (K : Ob) (rec : Rec α) : Prop :=
  ∀ hs st own m ti l r out h, rec hs st own m ti l r = some out → out.l = out.r → l.length = r.length → Mm T h₀ h K own → h.objs.size = n + m →
    (∀ h', Mm T h₀ h' K out.own → h'.objs.size = n + out.m → means w A Z Q E out.st ⟨h', g, d, tk + out.t, os⟩) → means w A Z Q E st ⟨h, g, d, tk + ti, os⟩
theorem nxt_snd {β : Type} {B : Around} {Q' : β → Shared → Prop} {E' : Value → Shared → Prop} {put : Sem β → St α} {kk : (Result → Sem β) → Kt α} {pu ra} {rec : Rec α}
    (hput : ∀ t s, means w A Z Q E (put t) s = wpAny (model prg w) B t Q' E' s) (hB : ∀ k, arK A (kk k) = B) (hk : ∀ k r s, resK w A Z Q E (kk k) r s = wpAny (model prg w) B (k r) Q' E' s)
    (S : Suf rec) (R : Snd w A Z Q E T h₀ g d os n tk K rec)
    (P : ∀ a hs own m ti l r out h, pu a hs own m ti l r = some out → out.l = out.r → l.length = r.length → Mm T h₀ h K own → h.objs.size = n + m →
      (∀ h', Mm T h₀ h' K out.own → h'.objs.size = n + out.m → means w A Z Q E out.st ⟨h', g, d, tk + out.t, os⟩) → wpAny (model prg w) B (Sem.pure a) Q' E' ⟨h, g, d, tk + ti, os⟩)
    (hra : ∀ e st, ra e = some st → ∀ s, means w A Z Q E st s = E' e s)
    {hs t own m ti l r out h} (e : nxt (denote table) ⟨prg, w.params⟩ n tk K put kk pu ra rec hs t own m ti l r = some out) (he : out.l = out.r) (hl : l.length = r.length) (D : Mm T h₀ h K own) (hz : h.objs.size = n + m)
    (hQ : ∀ h', Mm T h₀ h' K out.own → h'.objs.size = n + out.m → means w A Z Q E out.st ⟨h', g, d, tk + out.t, os⟩) : wpAny (model prg w) B t Q' E' ⟨h, g, d, tk + ti, os⟩ := by
  cases t <;> simp only [nxt] at e <;> first | (exact absurd e (by simp)) | skip
  · exact P _ _ _ _ _ _ _ _ _ e he hl D hz hQ
  · split at e
    · rename_i st hst
      have := R _ _ _ _ _ _ _ _ _ e he hl D hz hQ
      rw [hra _ _ hst] at this
      exact x_raise this
    · cases e
  · exact x_rule (by rw [← hput]; exact R _ _ _ _ _ _ _ _ _ e he hl D hz hQ)
  · exact x_at (by rw [← hput]; exact R _ _ _ _ _ _ _ _ _ e he hl D hz hQ)
  · split at e
    · cases e
      rw [← hput]; exact hQ _ D hz
    · split at e
      · split at e
        · rename_i p hp
          cases e
          have ea := (List.cons.inj he).1
          have ho := D.pick hp
          rw [← ea] at ho
          exact x_load ho (by rw [← hput]; exact hQ _ D hz)
        · cases e
      · split at e
        · rename_i p hp
          have ea := (List.cons.inj (S _ _ _ _ _ _ _ _ e he (by simp [hl]))).1
          have ho := D.pick hp
          rw [← ea] at ho
          exact x_load ho (by rw [← hput]; exact R _ _ _ _ _ _ _ _ _ e he (by simp [hl]) D hz hQ)
        · cases e
  · split at e
    · cases e
      rw [← hput]; exact hQ _ D hz
    · split at e
      · rename_i p hp
        split at e
        · cases e
        · rename_i hf
          have ea := (List.cons.inj (S _ _ _ _ _ _ _ _ e he (by simp [hl]))).1
          subst ea
          refine wpAny_bind (m := updatePart _ _ _) (f := _) (wpAny_updatePart (D.ow _ (List.mem_of_getElem? hp)) ?_)
          rw [← hput]
          exact R _ _ _ _ _ _ _ _ _ e he (by simp [hl]) (D.update hp hf) (by rw [Heap.size_update]; exact hz) hQ
      · cases e
  · split at e
    · cases e
    · rename_i hf
      refine wpAny_bind (m := alloc _) (f := _) (wpAny_alloc ?_)
      rw [← hput]
      split at e
      · cases e
        have z := hQ (h.push _) (by rw [← hz]; exact D.alloc hf) (by rw [Heap.size_push, hz, Nat.add_assoc])
        rw [← hz] at z
        exact z
      · have z := R _ _ _ _ _ _ _ _ (h.push _) e he hl (by rw [← hz]; exact D.alloc hf) (by rw [Heap.size_push, hz, Nat.add_assoc]) hQ
        rw [← hz] at z
        exact z
  · exact x_point (by rw [← hput]; exact R _ _ _ _ _ _ _ _ _ e he hl D hz hQ)
  · exact x_fresh (by rw [← hput]; exact R _ _ _ _ _ _ _ _ _ e he hl D hz hQ)
  · exact x_ask (by rw [← hput]; exact R _ _ _ _ _ _ _ _ _ e he hl D hz hQ)
  · split at e
    · cases e
      rw [← hput]; exact hQ _ D hz
    · split at e
      · have z := R _ _ _ _ _ _ _ _ _ e he hl D hz hQ
        refine x_call ?_ (by intro q; cases q)
        refine x_code ?_
        have z : wpAny (model prg w) _ _ _ _ _ := z
        rw [hB] at z
        refine wpAny_mono z (fun fin s' q => ?_) (fun x s' q => by rw [hk] at q; exact q)
        cases fin with
        | done f => have q : resK w A Z Q E _ _ _ := q; rw [hk] at q; exact q
        | again c' => exact ⟨q.1, codeAny_mono q.2 fun r s q => by rw [hk] at q; exact q⟩
      · cases e
theorem go_snd : ∀ f : Nat, Snd (α := α) w A Z Q E T h₀ g d os n tk K (goD (denote table) ⟨prg, w.params⟩ n tk K f)
  | 0 => fun _ _ _ _ _ _ _ _ _ e => by cases e
  | f + 1 => fun hs st own m ti l r out h e he hl D hz hQ => by
    have IH := go_snd f
    have S := go_suf (α := α) (dn := denote table) (sg := ⟨prg, w.params⟩) (n := n) (tk := tk) (K := K) f
    cases st with
    | out q => simp only [goD] at e; cases e; exact hQ _ D hz
    | top t =>
      simp only [goD] at e
      refine nxt_snd (B := A) (Q' := Q) (E' := E) (fun _ _ => rfl) (fun _ => rfl) (fun _ _ _ => rfl) S IH (fun a hs own m ti l r out h e he hl D hz hQ => ?_) (fun _ _ q => by cases q) e he hl D hz hQ
      cases e
      exact hQ _ D hz
    | sub t c hd κ =>
      simp only [goD] at e
      refine nxt_snd (B := ((arK A κ).mark hd).under c) (fun _ _ => rfl) (fun _ => rfl) (fun _ _ _ => rfl) S IH (fun a hs own m ti l r out h e he hl D hz hQ => ?_) (fun x st q s => by cases q; exact means_back ..) e he hl D hz hQ
      refine x_pure ?_
      cases a with
      | done fl =>
        have z := IH _ _ _ _ _ _ _ _ _ e he hl D hz hQ
        rw [means_back] at z
        exact z
      | again c' =>
        dsimp only at e
        split at e
        · rename_i hq
          exact ⟨hq, x_code (IH _ _ _ _ _ _ _ _ _ e he hl D hz hQ)⟩
        · cases e

noncomputable def ran {α : Type} (o : Option (Ou α)) : Ou α := match o with
  | some g => g
  | none => ⟨.out (.error .none), [], 0, 0, [], []⟩
theorem ran_is {α : Type} : ∀ {o : Option (Ou α)}, o.isSome = true → o = some (ran o)
  | some _, _ => rfl
theorem eng {s : Shared} {st : St α} {own : Ob} {n tk : Nat} (f : Nat) (hs : List Nat) (hn : s.heap.objs.size = n) (ht : s.toks = tk) (D : Mm T h₀ s.heap K own) (e : (go ⟨prg, w.params⟩ n tk K f hs st own 0 0 [] []).isSome = true)
    (he : (ran (go ⟨prg, w.params⟩ n tk K f hs st own 0 0 [] [])).l = (ran (go ⟨prg, w.params⟩ n tk K f hs st own 0 0 [] [])).r)
    (hQ : ∀ h' tk', Mm T h₀ h' K (ran (go ⟨prg, w.params⟩ n tk K f hs st own 0 0 [] [])).own → means w A Z Q E (ran (go ⟨prg, w.params⟩ n tk K f hs st own 0 0 [] [])).st { s with heap := h', toks := tk' }) : means w A Z Q E st s := by
  subst ht
  exact go_snd f _ _ _ 0 0 [] [] _ _ (ran_is e) he rfl D (by omega) fun h' D' _ => hQ h' _ D'
/-- to a value -/
theorem eng_p {s : Shared} {t : Sem α} {own own' : Ob} {n tk : Nat} (f : Nat) (hs : List Nat) (v : α) (hn : s.heap.objs.size = n) (ht : s.toks = tk) (D : Mm T h₀ s.heap K own) (e : (go (α := α) ⟨prg, w.params⟩ n tk K f hs (.top t) own 0 0 [] []).isSome = true)
    (he : (ran (go (α := α) ⟨prg, w.params⟩ n tk K f hs (.top t) own 0 0 [] [])).l = (ran (go (α := α) ⟨prg, w.params⟩ n tk K f hs (.top t) own 0 0 [] [])).r)
    (hv : (ran (go (α := α) ⟨prg, w.params⟩ n tk K f hs (.top t) own 0 0 [] [])).st = .top (.pure v)) (ho : (ran (go (α := α) ⟨prg, w.params⟩ n tk K f hs (.top t) own 0 0 [] [])).own = own')
    (hQ : ∀ h' tk', Mm T h₀ h' K own' → Q v { s with heap := h', toks := tk' }) : wpAny (model prg w) A t Q E s := by
  have : means w A (fun _ _ => True) Q E (.top t) s := eng f hs hn ht D e he fun h' _ D' => by
    rw [hv]; exact x_pure (hQ _ _ (ho ▸ D'))
  exact this
theorem eng_q {β : Type} {B : Around} {Q' : β → Shared → Prop} {E' : Value → Shared → Prop} {s : Shared} {t : Sem β} {own : Ob} {n tk : Nat} (f : Nat) (hs : List Nat) (v : β) (hn : s.heap.objs.size = n) (ht : s.toks = tk) (D : Mm T h₀ s.heap K own) (e : (go (α := β) ⟨prg, w.params⟩ n tk K f hs (.top t) own 0 0 [] []).isSome = true)
    (he : (ran (go (α := β) ⟨prg, w.params⟩ n tk K f hs (.top t) own 0 0 [] [])).l = (ran (go (α := β) ⟨prg, w.params⟩ n tk K f hs (.top t) own 0 0 [] [])).r)
    (hv : (ran (go (α := β) ⟨prg, w.params⟩ n tk K f hs (.top t) own 0 0 [] [])).st = .top (.pure v))
    (hQ : ∀ h' tk', Mm T h₀ h' K (ran (go (α := β) ⟨prg, w.params⟩ n tk K f hs (.top t) own 0 0 [] [])).own → Q' v { s with heap := h', toks := tk' }) : wpAny (model prg w) B t Q' E' s :=
  eng_p f hs v hn ht D e he hv rfl hQ
theorem ite_n {β : Type} {M : Model} {B : Around} {Q' : β → Shared → Prop} {E' : Value → Shared → Prop} {s : Shared} {c : Prop} [Decidable c] {x y : Sem β} (h : decide c = false) (hy : wpAny M B y Q' E' s) : wpAny M B (if c then x else y) Q' E' s := by
  rw [if_neg (of_decide_eq_false h)]; exact hy
theorem ite_y {β : Type} {M : Model} {B : Around} {Q' : β → Shared → Prop} {E' : Value → Shared → Prop} {s : Shared} {c : Prop} [Decidable c] {x y : Sem β} (h : decide c = true) (hy : wpAny M B x Q' E' s) : wpAny M B (if c then x else y) Q' E' s := by
  rw [if_pos (of_decide_eq_true h)]; exact hy
/-- past an eye on the list that the run cannot see -/
theorem eng_g {T₀ : List Addr} {T : ((Value → Bool) → List Value → List Value) → St α} {s : Shared} {hp : Heap} {own : Ob} {F0 : (Value → Bool) → List Value → List Value} (f : Nat) (hs : List Nat) (p : Value → Bool) (L l1 : List Value) (hl : F0 p L = l1)
    (D : Mm T₀ h₀ hp K own) (hh : s.heap = hp) (e : ∀ dw, (go ⟨prg, w.params⟩ hp.objs.size s.toks K f hs (T dw) own 0 0 [] []).isSome = true)
    (he : ∀ dw, (ran (go ⟨prg, w.params⟩ hp.objs.size s.toks K f hs (T dw) own 0 0 [] [])).l = (ran (go ⟨prg, w.params⟩ hp.objs.size s.toks K f hs (T dw) own 0 0 [] [])).r)
    (key : ∀ dw, (ran (go ⟨prg, w.params⟩ hp.objs.size s.toks K f hs (T dw) own 0 0 [] [])).st = (ran (go ⟨prg, w.params⟩ hp.objs.size s.toks K f hs (T fun _ _ => dw p L) own 0 0 [] [])).st)
    (ko : ∀ dw, (ran (go ⟨prg, w.params⟩ hp.objs.size s.toks K f hs (T dw) own 0 0 [] [])).own = (ran (go ⟨prg, w.params⟩ hp.objs.size s.toks K f hs (T fun _ _ => l1) own 0 0 [] [])).own)
    (hQ : ∀ h' tk', Mm T₀ h₀ h' K (ran (go ⟨prg, w.params⟩ hp.objs.size s.toks K f hs (T fun _ _ => l1) own 0 0 [] [])).own → means w A Z Q E (ran (go ⟨prg, w.params⟩ hp.objs.size s.toks K f hs (T fun _ _ => l1) own 0 0 [] [])).st { s with heap := h', toks := tk' }) : ∀ dw, F0 = dw → means w A Z Q E (T dw) s := by
  subst hh
  rintro dw rfl
  refine eng f hs rfl rfl D (e _) (he _) fun h' _ D' => ?_
  rw [key, hl]
  exact hQ _ _ (ko _ ▸ D')
noncomputable def contS : St α → Result → St α
  | .top (.call _ _ _ _ k), r => .top (k r)
  | .sub (.call _ _ _ _ k) c hd κ, r => .sub (k r) c hd κ
  | st, _ => st
noncomputable def arS (A : Around) : St α → Around
  | .out _ => A
  | .top _ => A
  | .sub _ c hd κ => ((arK A κ).mark hd).under c
noncomputable def callT : St α → Option Code
  | .top (.call c none _ _ _) => some c
  | .sub (.call c none _ _ _) _ _ _ => some c
  | _ => none
theorem call_stop {s : Shared} {st : St α} (c : Code) (h : callT st = some c) (hw : wpAny (model prg w) (arS A st) (Sem.call c none false [] Sem.pure) (fun r s' => means w A Z Q E (contS st r) s') (fun _ _ => False) s) : means w A Z Q E st s := by
  unfold callT at h
  split at h
  · cases h
    rename_i g l k
    exact wpAny_bind (m := Sem.call _ _ g l Sem.pure) (f := _) (wpAny_mono (fun Γ p hΓ => hw Γ p hΓ) (fun _ _ q => q) fun _ _ f => f.elim)
  · cases h
    rename_i g l k c hd κ
    exact wpAny_bind (m := Sem.call _ _ g l Sem.pure) (f := _) (wpAny_mono (fun Γ p hΓ => hw Γ p hΓ) (fun _ _ q => q) fun _ _ f => f.elim)
  · cases h
/-- how deep a place lies -/
noncomputable def dK : Kt α → Option (Nat × Nat)
  | .out => some (0, 0)
  | .base _ => some (0, 0)
  | .ret c none _ κ => match dK κ with
    | some (a, b) => some (a + c.weight, b + c.cUnits)
    | none => none
  | .ret _ (some _) _ _ => none
noncomputable def dS : St α → Option (Nat × Nat)
  | .out _ => some (0, 0)
  | .top _ => some (0, 0)
  | .sub _ c none κ => match dK κ with
    | some (a, b) => some (a + c.weight, b + c.cUnits)
    | none => none
  | .sub _ _ (some _) _ => none
theorem dK_ar {A : Around} : ∀ {κ : Kt α} {a b : Nat}, dK κ = some (a, b) → (arK A κ).handled = A.handled ∧ (arK A κ).depth = A.depth + a ∧ (arK A κ).units = A.units + b
  | .out, _, _, h => by cases h; exact ⟨rfl, rfl, rfl⟩
  | .base _, _, _, h => by cases h; exact ⟨rfl, rfl, rfl⟩
  | .ret c none _ κ, a, b, h => by
    simp only [dK] at h
    split at h
    · rename_i a' b' e
      cases h
      obtain ⟨h1, h2, h3⟩ := dK_ar (A := A) e
      exact ⟨h1, by show (arK A κ).depth + c.weight = _; rw [h2, Nat.add_assoc], by show (arK A κ).units + c.cUnits = _; rw [h3, Nat.add_assoc]⟩
    · cases h
  | .ret _ (some _) _ _, _, _, h => by cases h
theorem dS_ar {A : Around} {st : St α} {a b : Nat} (h : dS st = some (a, b)) : (arS A st).handled = A.handled ∧ (arS A st).depth = A.depth + a ∧ (arS A st).units = A.units + b := by
  cases st with
  | out _ => cases h; exact ⟨rfl, rfl, rfl⟩
  | top _ => cases h; exact ⟨rfl, rfl, rfl⟩
  | sub t c hd κ =>
    cases hd with
    | some _ => cases h
    | none =>
      simp only [dS] at h
      split at h
      · rename_i a' b' e
        cases h
        obtain ⟨h1, h2, h3⟩ := dK_ar (A := A) e
        exact ⟨h1, by show (arK A κ).depth + c.weight = _; rw [h2, Nat.add_assoc], by show (arK A κ).units + c.cUnits = _; rw [h3, Nat.add_assoc]⟩
      · cases h
structure Aok (n m : Nat) (A : Around) : Prop where
  hh : A.handled = none
  hd : A.depth + n ≤ 900
  hu : A.units + m ≤ 9000
noncomputable def Ac : Around := ⟨none, 900, none, none, 9000⟩
theorem wp_conc {α : Type} {M : Model} {A : Around} {t : Sem α} {Q : α → Shared → Prop} {E : Value → Shared → Prop} {s : Shared} (hA : Aok 0 0 A) (h : wpAny M Ac t Q E s) : wpAny M A t Q E s :=
  fun Γ p hΓ => h Γ p ⟨hΓ.1.trans hA.hh, Nat.le_trans hΓ.2.1 hA.hd, fun l hl => (by cases hl), fun g hg => (by cases hg), Nat.le_trans hΓ.2.2.2.2 hA.hu⟩
noncomputable def dOk (st : St α) (a b : Nat) : Bool := match dS st with
  | some (x, y) => Nat.ble x a && Nat.ble y b
  | none => false
theorem dOk_ar {A : Around} {st : St α} {a b n m : Nat} (h : dOk st a b = true) (hA : Aok (n + a) (m + b) A) : Aok n m (arS A st) := by
  unfold dOk at h
  split at h
  · rename_i x y e
    rw [Bool.and_eq_true] at h
    have h1 := Nat.le_of_ble_eq_true h.1
    have h2 := Nat.le_of_ble_eq_true h.2
    obtain ⟨z1, z2, z3⟩ := dS_ar (A := A) e
    exact ⟨z1.trans hA.hh, by rw [z2]; have := hA.hd; omega, by rw [z3]; have := hA.hu; omega⟩
  · cases h
theorem Aok.le {n m n' m' : Nat} {A : Around} (h : Aok n m A) (h1 : n' ≤ n) (h2 : m' ≤ m) : Aok n' m' A := ⟨h.hh, by have := h.hd; omega, by have := h.hu; omega⟩
/-- a call gone through by the kit's runner -/
theorem call_x {s : Shared} {st : St α} (c : Code) (a b : Nat) (hA : Aok a b A) (h : callT st = some c) (hd : dOk st a b = true) (hw : wpAny (model prg w) Ac (Sem.call c none false [] Sem.pure) (fun r s' => means w A Z Q E (contS st r) s') (fun _ _ => False) s) : means w A Z Q E st s :=
  call_stop c h (wp_conc (dOk_ar hd (by simpa using hA)) hw)
/-- a call by its own rule -/
theorem call_c {s : Shared} {st : St α} (c : Code) (a b n m : Nat) (hA : Aok (n + a) (m + b) A) (h : callT st = some c) (hd : dOk st a b = true) (hw : ∀ B, Aok n m B → codeAny (model prg w) B c (fun r s' => means w A Z Q E (contS st r) s') s) : means w A Z Q E st s := by
  refine call_stop c h (x_call ?_ (by intro q; cases q))
  have z := dOk_ar hd hA
  refine codeAny_mono (hw _ ?_) fun r s' q => x_pure q
  rw [Around.mark_none]; exact z
/-- nothing old is changed, those at the head are new -/
structure Nw (h h' : Heap) (news : Ob) : Prop where
  keep : ∀ b o, h.get? b = some o → h'.get? b = some o
  nw : ∀ p ∈ news, h'.get? p.1 = some p.2 ∧ h.get? p.1 = none
theorem Nw.of {h h' : Heap} {news : Ob} (D : X.Mem h h' [] news) : Nw h h' news := ⟨fun b o e => D.keep b o e (by simp [X.away]), D.nw⟩
theorem Mm.nw1 {h h' : Heap} {own news : Ob} {p : Addr × Obj} (D : Mm T h₀ h K own) (N : Nw h h' (p :: news)) : Mm T h₀ h' K (own ++ [p]) := by
  obtain ⟨e1, e2⟩ := N.nw p (.head _)
  have ne : ∀ b o, h.get? b = some o → b ≠ p.1 := fun b o e q => by rw [q, e2] at e; cases e
  refine ⟨fun q hq => ?_, ?_, fun q hq => ⟨N.keep _ _ (D.kn q hq).1, fun q' hq' => ?_⟩, fun b o e hb => N.keep _ _ (D.keep b o e fun q hq => hb q (List.mem_append_left _ hq)), fun q hq => ?_⟩
  · rcases List.mem_append.mp hq with hq | hq
    · exact N.keep _ _ (D.ow q hq)
    · simp only [List.mem_cons, List.not_mem_nil, or_false] at hq
      subst hq; exact e1
  · rw [List.map_append, List.nodup_append]
    refine ⟨D.nd, by simp, fun a ha b hb => ?_⟩
    obtain ⟨q, hq, rfl⟩ := List.mem_map.mp ha
    simp only [List.map_cons, List.map_nil, List.mem_cons, List.not_mem_nil, or_false] at hb
    subst hb
    exact ne _ _ (D.ow q hq)
  · rcases List.mem_append.mp hq' with hq' | hq'
    · exact (D.kn q hq).2 q' hq'
    · simp only [List.mem_cons, List.not_mem_nil, or_false] at hq'
      subst hq'
      exact (ne _ _ (D.kn q hq).1).symm
  · rcases List.mem_append.mp hq with hq | hq
    · exact D.fr q hq
    · simp only [List.mem_cons, List.not_mem_nil, or_false] at hq
      subst hq
      exact .inr (D.none e2)
theorem Mm.nw0 {h h' : Heap} {own news : Ob} (D : Mm T h₀ h K own) (N : Nw h h' news) : Mm T h₀ h' K own :=
  ⟨fun q hq => N.keep _ _ (D.ow q hq), D.nd, fun q hq => ⟨N.keep _ _ (D.kn q hq).1, (D.kn q hq).2⟩, fun b o e hb => N.keep _ _ (D.keep b o e hb), D.fr⟩
theorem Mm.eq {h : Heap} {own own' : Ob} (D : Mm T h₀ h K own) (e : own = own') : Mm T h₀ h K own' := e ▸ D
theorem Mm.up {h : Heap} {own : Ob} (D : Mm [] h₀ h K own) : Up h₀ h := fun b o e => D.keep b o e fun q hq hqb => by
  rcases D.fr q hq with x | x
  · cases x
  · rw [hqb, e] at x; cases x
theorem Mm.nw {h : Heap} {own news : Ob} (D : Mm [] h₀ h K own) (hs : ∀ q ∈ news, q ∈ own) : Nw h₀ h news :=
  ⟨D.up, fun p hp => ⟨D.ow p (hs p hp), (D.fr p (hs p hp)).resolve_left (by simp)⟩⟩
theorem Mm.at {h : Heap} {own : Ob} (D : Mm T h₀ h K own) (i : Nat) {p : Addr × Obj} (e : own[i]? = some p) : h.get? p.1 = some p.2 := D.ow p (List.mem_of_getElem? e)
end
end Mine
end

section
open PySem PySem.W PySem.W.X PySem.Calls PyProof.Rows
set_option maxRecDepth 100000
set_option linter.unusedVariables false
namespace Mine
/-- the names of a class K: tokens, the slots' list, the attributes' tuple, the functions -/
noncomputable def nsE (P : Params) (t : Nat → Tok) (sl sa : Addr) (f : Nat → Addr) : List DictEntry :=
  [⟨PyData.keyHash P (Str.ofString "__module__"), .str (Str.ofString "__module__") (t 0), .str (Str.ofString "cpy313.functools") (t 1)⟩,
   ⟨PyData.keyHash P (Str.ofString "__qualname__"), .str (Str.ofString "__qualname__") (t 2), .str (Str.ofString "cmp_to_key.<locals>.K") (t 3)⟩,
   ⟨PyData.keyHash P (Str.ofString "__firstlineno__"), .str (Str.ofString "__firstlineno__") (t 4), .int 4 (t 5)⟩,
   ⟨PyData.keyHash P (Str.ofString "__slots__"), .str (Str.ofString "__slots__") (t 6), .ref sl⟩,
   ⟨PyData.keyHash P (Str.ofString "__init__"), .str (Str.ofString "__init__") (t 7), .ref (f 0)⟩,
   ⟨PyData.keyHash P (Str.ofString "__lt__"), .str (Str.ofString "__lt__") (t 8), .ref (f 1)⟩,
   ⟨PyData.keyHash P (Str.ofString "__gt__"), .str (Str.ofString "__gt__") (t 9), .ref (f 2)⟩,
   ⟨PyData.keyHash P (Str.ofString "__eq__"), .str (Str.ofString "__eq__") (t 10), .ref (f 3)⟩,
   ⟨PyData.keyHash P (Str.ofString "__le__"), .str (Str.ofString "__le__") (t 11), .ref (f 4)⟩,
   ⟨PyData.keyHash P (Str.ofString "__ge__"), .str (Str.ofString "__ge__") (t 12), .ref (f 5)⟩,
   ⟨PyData.keyHash P (Str.ofString "__hash__"), .str (Str.ofString "__hash__") (t 13), .none⟩,
   ⟨PyData.keyHash P (Str.ofString "__static_attributes__"), .str (Str.ofString "__static_attributes__") (t 14), .ref sa⟩]
noncomputable def nsO (P : Params) (t : Nat → Tok) (sl sa : Addr) (f : Nat → Addr) : Obj := ⟨.type "dict", none, .dict (nsE P t sl sa f).toArray 12, #[]⟩
noncomputable def tupO (vs : List Value) : Obj := ⟨.type "tuple", none, .seq vs.toArray 0, #[]⟩
noncomputable def fnO (F : FuncData) : Obj := ⟨.type "function", none, .func F, #[]⟩
noncomputable def slO (u : Tok) (n : Nat) : Obj := ⟨.type "list", none, .seq #[.str (Str.ofString "obj") u] n, #[]⟩
/-- what a class statement hands to `type.__new__` -/
noncomputable def tnK (P : Params) (t : Nat → Tok) (bT ns sl sa : Addr) (f : Nat → Addr) (F : Nat → FuncData) (sv : List Value) (u : Tok) : Ob :=
  [(bT, tupO [.type "object"]), (ns, nsO P t sl sa f), (sl, slO u 0), (f 0, fnO (F 0)), (f 1, fnO (F 1)), (f 2, fnO (F 2)), (f 3, fnO (F 3)), (f 4, fnO (F 4)), (f 5, fnO (F 5)), (sa, tupO sv), (2, ⟨.none, none, .dict #[] 0, #[]⟩)]
theorem nil_apart (K : Ob) (h : Heap) (hk : ∀ p ∈ K, h.get? p.1 = some p.2) : Mm [] h h K [] := ⟨fun p hp => (nomatch hp), List.nodup_nil, fun p hp => ⟨hk p hp, fun q hq => (nomatch hq)⟩, fun b o e _ => e, fun q hq => (nomatch hq)⟩
noncomputable def tnArgs (nm : Value) (bT ns : Addr) : Args := ⟨[.type "type", nm, .ref bT, .ref ns], []⟩
section
variable {w : World} {A : Around} {s : Shared} {R : Result → Shared → Prop} {t : Nat → Tok} {bT nx sl sa : Addr} {f : Nat → Addr} {F : Nat → FuncData} {sv : List Value} {u v : Tok}
end
end Mine
end

section
open PySem PySem.W PySem.W.X PySem.Calls PyProof.Rows
set_option maxRecDepth 100000
set_option linter.unusedVariables false
namespace Mine
section
variable {pr : Program} {w : World} {E : Value → Shared → Prop} {s : Shared} {Q : Result → Shared → Prop}
set_option hygiene false in
local macro_rules | `(tactic| x_close) => `(tactic| (rename X.Mem _ _ _ _ => hD; exact hQ _ _ _ (Nw.of hD)))
set_option maxHeartbeats 0 in
theorem collect_x {sl : Addr} {u : Tok} (ho : s.heap.get? sl = some ⟨.type "list", none, .seq #[.str (Str.ofString "obj") u] 0, #[]⟩)
    (hQ : ∀ D h' tk, Nw s.heap h' [(D, slO u 1)] → Q (.ok (.ret (.ref D))) ⟨h', s.gens, s.drawn, tk, s.os⟩) :
    wpAny (model pr w) Ac (Sem.call (.builtin "proto.collect" ⟨[.ref sl], []⟩) none false [] Sem.pure) Q E s := by
  x_run
end
noncomputable def clO (c ns bT : Addr) (v q : Tok) : Obj := ⟨.type "type", none, .cls ⟨Str.ofString "K", [.type "object"], [.ref c, .type "object"], ns, Str.ofString "cmp_to_key.<locals>.K", false, [Str.ofString "obj"], [], false, none, false⟩,
  #[some (.ref bT), none, some (.str (Str.ofString "K") v), some (.str (Str.ofString "cmp_to_key.<locals>.K") q), some (.builtin "object.__new__"), some (.bool false)]⟩
noncomputable def suO (c : Addr) : Obj := ⟨.type "super", none, .fields #[.ref c, .ref c, .ref c], #[]⟩
noncomputable def bmO (c : Addr) : Obj := ⟨.type "builtin_function_or_method", none, .fields #[.builtin "object.__init_subclass__", .ref c], #[]⟩
section
variable {pr : Program} {w : World} {E : Value → Shared → Prop} {s : Shared} {Q : Result → Shared → Prop} {c ns bT : Addr} {v q : Tok}
set_option hygiene false in
local macro_rules | `(tactic| x_close) => `(tactic| (rename X.Mem _ _ _ _ => hD; exact hQ _ _ _ _ (Nw.of hD)))
set_option maxHeartbeats 0 in
theorem super_x (ho : s.heap.get? c = some ⟨.type "type", none, .cls ⟨Str.ofString "K", [.type "object"], [.ref c, .type "object"], ns, Str.ofString "cmp_to_key.<locals>.K", false, [Str.ofString "obj"], [], false, none, false⟩,
  #[some (.ref bT), none, some (.str (Str.ofString "K") v), some (.str (Str.ofString "cmp_to_key.<locals>.K") q), some (.builtin "object.__new__"), some (.bool false)]⟩)
    (hQ : ∀ D h' tk l, Nw s.heap h' ((D, suO c) :: l) → Q (.ok (.ret (.ref D))) ⟨h', s.gens, s.drawn, tk, s.os⟩) :
    wpAny (model pr w) Ac (Sem.call (.call (.type "super") ⟨[.ref c, .ref c], []⟩) none false [] Sem.pure) Q E s := by
  x_run
set_option maxHeartbeats 0 in
theorem getx_x (ho : s.heap.get? c = some ⟨.type "type", none, .cls ⟨Str.ofString "K", [.type "object"], [.ref c, .type "object"], ns, Str.ofString "cmp_to_key.<locals>.K", false, [Str.ofString "obj"], [], false, none, false⟩,
  #[some (.ref bT), none, some (.str (Str.ofString "K") v), some (.str (Str.ofString "cmp_to_key.<locals>.K") q), some (.builtin "object.__new__"), some (.bool false)]⟩)
    (hQ : ∀ D h' tk l, Nw s.heap h' ((D, bmO c) :: l) → Q (.ok (.ret (.ref D))) ⟨h', s.gens, s.drawn, tk, s.os⟩) :
    wpAny (model pr w) Ac (Sem.call (.call (.builtin "classmethod_descriptor.__get__") ⟨[.builtin "object.__init_subclass__", .none, .ref c], []⟩) none false [] Sem.pure) Q E s := by
  x_run
end
end Mine
end

section
open PySem PySem.W PySem.W.X PySem.Calls PyProof.Rows
set_option maxRecDepth 100000
set_option linter.unusedVariables false
namespace Mine
noncomputable def stO : Obj := ⟨.none, none, .dict #[] 0, #[]⟩
noncomputable def sgK (su c ns bT : Addr) (v q : Tok) : Ob := [(su, suO c), (2, stO), (c, clO c ns bT v q)]
section
variable {w : World} {A : Around} {s : Shared} {R : Result → Shared → Prop} {c ns bT su : Addr} {v q u : Tok}
set_option maxHeartbeats 1000000 in
theorem sg (hA : Aok 20 60 A) (hk : ∀ p ∈ sgK su c ns bT v q, s.heap.get? p.1 = some p.2)
    (hQ : ∀ D h' tk, Nw s.heap h' [(D, bmO c)] → R (.ok (.ret (.ref D))) { s with heap := h', toks := tk }) :
    codeAny (model prg w) A (.call (.builtin "super.__getattribute__") ⟨[.ref su, .str (Str.ofString "__init_subclass__") u], []⟩) R s := by
  refine codeAny_call_builtin_at (by kernel_rfl) (b := Builtin.«super.__getattribute__») (entryFor_of_fast (by kernel_rfl)) ?_
  refine eng_p (own' := []) 100 [1000] () rfl rfl (nil_apart _ _ hk) (by kernel_rfl!) (by kernel_rfl!) (by kernel_rfl!) (by kernel_rfl!) fun h1 t1 D1 => ?_
  show means (α := Unit) w A R (fun _ _ => True) (fun _ _ => True) (.sub (Builtin.«super.__getattribute__» ⟨[.ref su, .str (Str.ofString "__init_subclass__") u], []⟩) (.builtin "super.__getattribute__" ⟨[.ref su, .str (Str.ofString "__init_subclass__") u], []⟩) none .out) _
  delta Builtin.«super.__getattribute__»
  generalize hF : @List.dropWhile Value = dw
  revert hF
  revert dw
  refine eng_g 200 [1000, 1000, 1000, 1001, 3002] (fun x => x != .ref c) [.ref c, .type "object"] [.ref c, .type "object"] ?_ D1 ?_ ?_ ?_ ?_ ?_ ?_
  · simp
  · rfl
  · intro dw; kernel_rfl!
  · intro dw; kernel_rfl!
  · intro dw; kernel_rfl!
  · intro dw; kernel_rfl!
  intro h2 t2 D2
  refine eng 100 [] rfl rfl D2 (by kernel_rfl!) (by kernel_rfl!) fun h3 t3 D3 => ?_
  refine call_x (.call (.builtin "classmethod_descriptor.__get__") ⟨[.builtin "object.__init_subclass__", if (Value.ref c == Value.ref c) = true then .none else .ref c, .ref c], []⟩) 20 60 hA (by kernel_rfl!) (by kernel_rfl!) ?_
  rw [if_pos (by simp)]
  refine getx_x ((D3.kn (c, clO c ns bT v q) (.tail _ (.tail _ (.head _)))).1) fun D h4 t4 l N => ?_
  have D4 := D3.nw1 N
  have e4 : h4.get? D = some (bmO c) := (N.nw _ (.head _)).1
  have n4 : s.heap.get? D = none := D3.none (N.nw _ (.head _)).2
  refine eng 100 [] rfl rfl D4 (by kernel_rfl!) (by kernel_rfl!) fun h5 t5 D5 => ?_
  rw [show (ran _).st = St.out (.ok (.ret (.ref D))) from by kernel_rfl!]
  exact hQ D h5 _ ((D5.eq (own' := [(D, bmO c)]) (by kernel_rfl!)).nw fun q hq => hq)
end
end Mine
end

section
open PySem PySem.W PySem.W.X PySem.Calls PyProof.Rows
set_option maxRecDepth 100000
set_option linter.unusedVariables false
namespace Mine
/-- `means` behind a lid, so that no elaborator looks into it -/
structure Me {α : Type} (w : World) (A : Around) (Z : Result → Shared → Prop) (Q : α → Shared → Prop) (E : Value → Shared → Prop) (st : St α) (s : Shared) : Prop where
  out : means w A Z Q E st s
section
variable {w : World} {α : Type} {A : Around} {Z : Result → Shared → Prop} {Q : α → Shared → Prop} {E : Value → Shared → Prop} {T : List Addr} {h₀ : Heap} {n tk : Nat} {K : Ob}
theorem Me.ends {st : St α} {s : Shared} (r : Result) (h : st = .out r) (hz : Z r s) : Me w A Z Q E st s := ⟨by rw [h]; exact hz⟩
theorem Me.tops {st : St α} {s : Shared} (v : α) (h : st = .top (.pure v)) (hz : Q v s) : Me w A Z Q E st s := ⟨by rw [h]; exact x_pure hz⟩
theorem Me.sub {t : Sem PySem.Fin} {c : Code} {s : Shared} {R : Result → Shared → Prop} (h : Me (α := Unit) w A R (fun _ _ => True) (fun _ _ => True) (.sub t c none .out) s) :
    wpAny (model prg w) ((A.mark none).under c) t (finP w (A.mark none) R) (fun e s' => R (.error e) s') s := h.out
theorem Me.top {t : Sem α} {s : Shared} (h : Me w A (fun _ _ => True) Q E (.top t) s) : wpAny (model prg w) A t Q E s := h.out
theorem en {s : Shared} {st : St α} {own : Ob} {n tk : Nat} (f : Nat) (hs : List Nat) (hn : s.heap.objs.size = n) (ht : s.toks = tk) (D : Mm T h₀ s.heap K own) (e : (go ⟨prg, w.params⟩ n tk K f hs st own 0 0 [] []).isSome = true)
    (he : (ran (go ⟨prg, w.params⟩ n tk K f hs st own 0 0 [] [])).l = (ran (go ⟨prg, w.params⟩ n tk K f hs st own 0 0 [] [])).r) (own' : Ob) (ho : (ran (go ⟨prg, w.params⟩ n tk K f hs st own 0 0 [] [])).own = own')
    (hQ : ∀ h' tk', Mm T h₀ h' K own' → Me w A Z Q E (ran (go ⟨prg, w.params⟩ n tk K f hs st own 0 0 [] [])).st { s with heap := h', toks := tk' }) : Me w A Z Q E st s :=
  ⟨eng f hs hn ht D e he fun h' tk' D' => (hQ h' tk' (ho ▸ D')).out⟩
theorem cl_x {s : Shared} {st : St α} (c : Code) (a b : Nat) (hA : Aok a b A) (h : callT st = some c) (hd : dOk st a b = true) (hw : wpAny (model prg w) Ac (Sem.call c none false [] Sem.pure) (fun r s' => Me w A Z Q E (contS st r) s') (fun _ _ => False) s) : Me w A Z Q E st s :=
  ⟨call_x c a b hA h hd (wpAny_mono hw (fun _ _ q => q.out) fun _ _ q => q)⟩
theorem cl_c {s : Shared} {st : St α} (c : Code) (a b n m : Nat) (hA : Aok (n + a) (m + b) A) (h : callT st = some c) (hd : dOk st a b = true) (hw : ∀ B, Aok n m B → codeAny (model prg w) B c (fun r s' => Me w A Z Q E (contS st r) s') s) : Me w A Z Q E st s :=
  ⟨call_c c a b n m hA h hd fun B hB => codeAny_mono (hw B hB) fun r s q => q.out⟩
noncomputable def dZ : Code → Sem PySem.Fin := PySem.W.ZFast.zw11892475500146522536 PySem.W.ZFast.tableZ
theorem dZ_eq : denote table = dZ := by
  unfold dZ
  rw [← PySem.W.ZFast.tableZ_eq, ← PySem.W.ZFast.ze11892475500146522536]
/-- the run over the fast twin of the code -/
noncomputable abbrev gz {α : Type} (sg : Setting) (n tk : Nat) (K : Ob) : Nat → Rec α := goD dZ sg n tk K
theorem ez {s : Shared} {st : St α} {own : Ob} {n tk : Nat} (f : Nat) (hs : List Nat) (hn : s.heap.objs.size = n) (ht : s.toks = tk) (D : Mm T h₀ s.heap K own) (e : (gz ⟨prg, w.params⟩ n tk K f hs st own 0 0 [] []).isSome = true)
    (he : (ran (gz ⟨prg, w.params⟩ n tk K f hs st own 0 0 [] [])).l = (ran (gz ⟨prg, w.params⟩ n tk K f hs st own 0 0 [] [])).r) (own' : Ob) (ho : (ran (gz ⟨prg, w.params⟩ n tk K f hs st own 0 0 [] [])).own = own')
    (hQ : ∀ h' tk', Mm T h₀ h' K own' → Me w A Z Q E (ran (gz ⟨prg, w.params⟩ n tk K f hs st own 0 0 [] [])).st { s with heap := h', toks := tk' }) : Me w A Z Q E st s := by
  have key : ∀ dn, denote table = dn → (goD dn ⟨prg, w.params⟩ n tk K f hs st own 0 0 [] []).isSome = true → (ran (goD dn ⟨prg, w.params⟩ n tk K f hs st own 0 0 [] [])).l = (ran (goD dn ⟨prg, w.params⟩ n tk K f hs st own 0 0 [] [])).r →
      (ran (goD dn ⟨prg, w.params⟩ n tk K f hs st own 0 0 [] [])).own = own' → (∀ h' tk', Mm T h₀ h' K own' → Me w A Z Q E (ran (goD dn ⟨prg, w.params⟩ n tk K f hs st own 0 0 [] [])).st { s with heap := h', toks := tk' }) → Me w A Z Q E st s := by
    rintro _ rfl e he ho hQ
    exact en f hs hn ht D e he own' ho hQ
  exact key _ dZ_eq e he ho hQ
theorem Me.codeZ {c : Code} {s : Shared} {R : Result → Shared → Prop} (h : Me (α := Unit) w A R (fun _ _ => True) (fun _ _ => True) (.sub (dZ c) c none .out) s) : codeAny (model prg w) A c R s := by
  refine x_code ?_
  have z := h.out
  rw [← dZ_eq] at z
  rw [← Around.mark_none (A := A)]
  exact z
end
end Mine
end

section
open PySem PySem.W PySem.W.X PySem.Calls PyProof.Rows
set_option maxRecDepth 100000
set_option linter.unusedVariables false
namespace Mine
noncomputable def nsF (P : Params) (t : Nat → Tok) (sl sa md : Addr) (f : Nat → Addr) (x y : Tok) : Obj := ⟨.type "dict", none, .dict (#[
   ⟨PyData.keyHash P (Str.ofString "__module__"), .str (Str.ofString "__module__") (t 0), .str (Str.ofString "cpy313.functools") (t 1)⟩,
   ⟨PyData.keyHash P (Str.ofString "__firstlineno__"), .str (Str.ofString "__firstlineno__") (t 4), .int 4 (t 5)⟩,
   ⟨PyData.keyHash P (Str.ofString "__slots__"), .str (Str.ofString "__slots__") (t 6), .ref sl⟩,
   ⟨PyData.keyHash P (Str.ofString "__init__"), .str (Str.ofString "__init__") (t 7), .ref (f 0)⟩,
   ⟨PyData.keyHash P (Str.ofString "__lt__"), .str (Str.ofString "__lt__") (t 8), .ref (f 1)⟩,
   ⟨PyData.keyHash P (Str.ofString "__gt__"), .str (Str.ofString "__gt__") (t 9), .ref (f 2)⟩,
   ⟨PyData.keyHash P (Str.ofString "__eq__"), .str (Str.ofString "__eq__") (t 10), .ref (f 3)⟩,
   ⟨PyData.keyHash P (Str.ofString "__le__"), .str (Str.ofString "__le__") (t 11), .ref (f 4)⟩,
   ⟨PyData.keyHash P (Str.ofString "__ge__"), .str (Str.ofString "__ge__") (t 12), .ref (f 5)⟩,
   ⟨PyData.keyHash P (Str.ofString "__hash__"), .str (Str.ofString "__hash__") (t 13), .none⟩,
   ⟨PyData.keyHash P (Str.ofString "__static_attributes__"), .str (Str.ofString "__static_attributes__") (t 14), .ref sa⟩,
   ⟨PyData.keyHash P (Str.ofString "obj"), .str (Str.ofString "obj") x, .ref md⟩,
   ⟨PyData.keyHash P (Str.ofString "__doc__"), .str (Str.ofString "__doc__") y, .none⟩]) 3, #[]⟩
noncomputable def nsE1 (P : Params) (t : Nat → Tok) (sl sa : Addr) (f : Nat → Addr) : List DictEntry :=
  [⟨PyData.keyHash P (Str.ofString "__module__"), .str (Str.ofString "__module__") (t 0), .str (Str.ofString "cpy313.functools") (t 1)⟩,
   ⟨PyData.keyHash P (Str.ofString "__firstlineno__"), .str (Str.ofString "__firstlineno__") (t 4), .int 4 (t 5)⟩,
   ⟨PyData.keyHash P (Str.ofString "__slots__"), .str (Str.ofString "__slots__") (t 6), .ref sl⟩,
   ⟨PyData.keyHash P (Str.ofString "__init__"), .str (Str.ofString "__init__") (t 7), .ref (f 0)⟩,
   ⟨PyData.keyHash P (Str.ofString "__lt__"), .str (Str.ofString "__lt__") (t 8), .ref (f 1)⟩,
   ⟨PyData.keyHash P (Str.ofString "__gt__"), .str (Str.ofString "__gt__") (t 9), .ref (f 2)⟩,
   ⟨PyData.keyHash P (Str.ofString "__eq__"), .str (Str.ofString "__eq__") (t 10), .ref (f 3)⟩,
   ⟨PyData.keyHash P (Str.ofString "__le__"), .str (Str.ofString "__le__") (t 11), .ref (f 4)⟩,
   ⟨PyData.keyHash P (Str.ofString "__ge__"), .str (Str.ofString "__ge__") (t 12), .ref (f 5)⟩,
   ⟨PyData.keyHash P (Str.ofString "__hash__"), .str (Str.ofString "__hash__") (t 13), .none⟩,
   ⟨PyData.keyHash P (Str.ofString "__static_attributes__"), .str (Str.ofString "__static_attributes__") (t 14), .ref sa⟩]
noncomputable def ns1O (P : Params) (t : Nat → Tok) (sl sa : Addr) (f : Nat → Addr) : Obj := ⟨.type "dict", none, .dict (nsE1 P t sl sa f).toArray 1, #[]⟩
noncomputable def cl1O (bT ns : Addr) (v q : Tok) : Obj := ⟨.type "type", none, .cls ⟨Str.ofString "K", [.type "object"], [], ns, Str.ofString "cmp_to_key.<locals>.K", true, [], [], false, none, false⟩,
  #[some (.ref bT), none, some (.str (Str.ofString "K") v), some (.str (Str.ofString "cmp_to_key.<locals>.K") q)]⟩
noncomputable def mdO (c : Addr) (x : Tok) : Obj := ⟨.type "member_descriptor", none, .fields #[.str (Str.ofString "obj") x, .ref c, .builtin "proto.slot", .builtin "proto.slot#set", .int 0 0], #[]⟩
theorem filt_any {M : Model} {A : Around} {E : Value → Shared → Prop} {s : Shared} {Q : Bool → Shared → Prop} {P : Value → Sem Bool} {c : Addr} (h : wpAny M A (List.anyM P [.type "object"]) Q E s) :
    wpAny M A (List.anyM P (List.filter (fun x => x != Value.ref c) [.ref c, .type "object"])) Q E s := by
  rw [show List.filter (fun x => x != Value.ref c) [.ref c, .type "object"] = [.type "object"] from by simp]; exact h
section
variable {w : World} {A : Around} {s : Shared} {R : Result → Shared → Prop} {t : Nat → Tok} {bT nx sl sa : Addr} {f : Nat → Addr} {F : Nat → FuncData} {sv : List Value} {u v : Tok}
set_option maxHeartbeats 4000000 in
theorem tnew (hA : Aok 50 150 A) (hk : ∀ p ∈ tnK w.params t bT (nx + 2) sl sa f F sv u, s.heap.get? p.1 = some p.2)
    (hQ : ∀ c ns md x y z h' tk, Nw s.heap h' [(ns, nsF w.params t sl sa md f x y), (c, clO c ns bT v (t 3)), (md, mdO c z)] → R (.ok (.ret (.ref c))) { s with heap := h', toks := tk }) :
    codeAny (model prg w) A (.call (.builtin "type.__new__") (tnArgs (.str (Str.ofString "K") v) bT (nx + 2))) R s := by
  refine codeAny_call_builtin_at (by kernel_rfl) (b := Builtin.«type.__new__») (entryFor_of_fast (by kernel_rfl)) ?_
  refine wpAny_of_eq (a := ()) (by kernel_rfl) ?_
  delta Builtin.«type.__new__»
  have hA0 : Aok 0 0 (A.under (Code.builtin "type.__new__" (tnArgs (.str (Str.ofString "K") v) bT (nx + 2)))) := by
    refine ⟨hA.hh, ?_, ?_⟩
    · show A.depth + (Code.builtin "type.__new__" (tnArgs (.str (Str.ofString "K") v) bT (nx + 2))).weight + 0 ≤ 900
      rw [show (Code.builtin "type.__new__" (tnArgs (.str (Str.ofString "K") v) bT (nx + 2))).weight = 0 from by kernel_rfl!]
      have := hA.hd; omega
    · show A.units + (Code.builtin "type.__new__" (tnArgs (.str (Str.ofString "K") v) bT (nx + 2))).cUnits + 0 ≤ 9000
      rw [show (Code.builtin "type.__new__" (tnArgs (.str (Str.ofString "K") v) bT (nx + 2))).cUnits = 1 from by kernel_rfl!]
      have := hA.hu; omega
  refine wpAny_bind (eng_q 100 [] (some (Str.ofString "K")) rfl rfl (nil_apart _ _ hk) (by kernel_rfl!) (by kernel_rfl!) (by kernel_rfl!) fun h1 t1 D => ?_)
  refine wpAny_bind (eng_q 100 [1000] true rfl rfl D (by kernel_rfl!) (by kernel_rfl!) (by kernel_rfl!) fun h1 t1 D => ?_)
  refine ite_n (by kernel_rfl!) ?_
  refine wpAny_bind (eng_q 100 [1001] true rfl rfl D (by kernel_rfl!) (by kernel_rfl!) (by kernel_rfl!) fun h1 t1 D => ?_)
  refine ite_n (by kernel_rfl!) ?_
  refine wpAny_bind (eng_q 100 [1000] (some #[.type "object"]) rfl rfl D (by kernel_rfl!) (by kernel_rfl!) (by kernel_rfl!) fun h1 t1 D => ?_)
  refine ite_n (by kernel_rfl!) ?_
  refine wpAny_bind (eng_q 100 [] PUnit.unit rfl rfl D (by kernel_rfl!) (by kernel_rfl!) (by kernel_rfl!) fun h1 t1 D => ?_)
  refine wpAny_bind (eng_q 100 [] (.type "type") rfl rfl D (by kernel_rfl!) (by kernel_rfl!) (by kernel_rfl!) fun h1 t1 D => ?_)
  refine ite_n (by kernel_rfl!) ?_
  refine wpAny_bind (eng_q 100 [] PUnit.unit rfl rfl D (by kernel_rfl!) (by kernel_rfl!) (by kernel_rfl!) fun h1 t1 D => ?_)
  refine wpAny_bind (eng_q 100 [] (.type "object") rfl rfl D (by kernel_rfl!) (by kernel_rfl!) (by kernel_rfl!) fun h1 t1 D => ?_)
  refine ite_n (by kernel_rfl!) ?_
  refine wpAny_bind (eng_q 100 [1001] (nsE w.params t sl sa f).toArray rfl rfl D (by kernel_rfl!) (by kernel_rfl!) (by kernel_rfl!) fun h1 t1 D => ?_)
  refine wpAny_bind (eng_q 100 [1001] (some (.builtin "dict.__iter__")) rfl rfl D (by kernel_rfl!) (by kernel_rfl!) (by kernel_rfl!) fun h1 t1 D => ?_)
  refine ite_y (by kernel_rfl!) ?_
  refine wpAny_bind (eng_q 100 [] ((nsE w.params t sl sa f).toArray, []) rfl rfl D (by kernel_rfl!) (by kernel_rfl!) (by kernel_rfl!) fun h1 t1 D => ?_)
  replace D := D.eq (own' := []) (by kernel_rfl!)
  refine wpAny_bind (Me.top (α := Builtin.Slots.Plan) ?_)
  refine ez 200 [1002] rfl rfl D (by kernel_rfl!) (by kernel_rfl!) [] (by kernel_rfl!) fun h1 t1 D => ?_
  refine cl_x (.builtin "proto.collect" ⟨[.ref sl], []⟩) 0 0 hA0 (by kernel_rfl!) (by kernel_rfl!) ?_
  refine collect_x ((D.kn (sl, slO u 0) (.tail _ (.tail _ (.head _)))).1) fun L h2 t2 N => ?_
  replace D := D.nw1 N
  refine ez 200 [0] rfl rfl D (by kernel_rfl!) (by kernel_rfl!) [(L, slO u 1)] (by kernel_rfl!) fun h1 t1 D => ?_
  refine Me.tops (⟨[Str.ofString "obj"], false, false, []⟩ : Builtin.Slots.Plan) (by kernel_rfl!) ?_
  clear N
  have hsz0 : ∃ n, n = h1.objs.size := ⟨_, rfl⟩
  obtain ⟨ns, hns⟩ := hsz0
  refine wpAny_bind (eng_q 100 [] (.ref ns) hns.symm rfl D (by kernel_rfl!) (by kernel_rfl!) (by kernel_rfl!) fun h1 t1 D => ?_)
  refine ite_n (by kernel_rfl!) ?_
  refine wpAny_bind (eng_q 100 [] PUnit.unit rfl rfl D (by kernel_rfl!) (by kernel_rfl!) (by kernel_rfl!) fun h1 t1 D => ?_)
  refine ite_n (by kernel_rfl!) ?_
  refine wpAny_bind (eng_q 100 [1] (some (.str (Str.ofString "cmp_to_key.<locals>.K") (t 3))) rfl rfl D (by kernel_rfl!) (by kernel_rfl!) (by kernel_rfl!) fun h1 t1 D => ?_)
  refine wpAny_bind (eng_q 100 [1] (some (.str (Str.ofString "cmp_to_key.<locals>.K") (t 3))) rfl rfl D (by kernel_rfl!) (by kernel_rfl!) (by kernel_rfl!) fun h1 t1 D => ?_)
  refine wpAny_bind (eng_q 100 [] (some (Str.ofString "cmp_to_key.<locals>.K")) rfl rfl D (by kernel_rfl!) (by kernel_rfl!) (by kernel_rfl!) fun h1 t1 D => ?_)
  refine wpAny_bind (eng_q 100 [] (Str.ofString "cmp_to_key.<locals>.K") rfl rfl D (by kernel_rfl!) (by kernel_rfl!) (by kernel_rfl!) fun h1 t1 D => ?_)
  refine wpAny_bind (eng_q 100 [1] none rfl rfl D (by kernel_rfl!) (by kernel_rfl!) (by kernel_rfl!) fun h1 t1 D => ?_)
  have hsz0 : ∃ n, n = h1.objs.size := ⟨_, rfl⟩
  obtain ⟨c, hc⟩ := hsz0
  refine wpAny_bind (eng_q 100 [] c hc.symm rfl D (by kernel_rfl!) (by kernel_rfl!) (by kernel_rfl!) fun h1 t1 D => ?_)
  refine ite_y (by kernel_rfl!) ?_
  refine wpAny_bind (eng_q 100 [2] PUnit.unit rfl rfl D (by kernel_rfl!) (by kernel_rfl!) (by kernel_rfl!) fun h1 t1 D => ?_)
  refine wpAny_bind (eng_q 100 [2] PUnit.unit rfl rfl D (by kernel_rfl!) (by kernel_rfl!) (by kernel_rfl!) fun h1 t1 D => ?_)
  refine wpAny_bind (eng_q 100 [2] PUnit.unit rfl rfl D (by kernel_rfl!) (by kernel_rfl!) (by kernel_rfl!) fun h1 t1 D => ?_)
  refine wpAny_bind (eng_q 100 [1, 1] true rfl rfl D (by kernel_rfl!) (by kernel_rfl!) (by kernel_rfl!) fun h1 t1 D => ?_)
  refine wpAny_bind (eng_q 100 [1] none rfl rfl D (by kernel_rfl!) (by kernel_rfl!) (by kernel_rfl!) fun h1 t1 D => ?_)
  refine wpAny_bind (eng_q 100 [1, 1] PUnit.unit rfl rfl D (by kernel_rfl!) (by kernel_rfl!) (by kernel_rfl!) fun h1 t1 D => ?_)
  refine wpAny_bind (eng_q 100 [1] none rfl rfl D (by kernel_rfl!) (by kernel_rfl!) (by kernel_rfl!) fun h1 t1 D => ?_)
  refine wpAny_bind (eng_q 100 [1] none rfl rfl D (by kernel_rfl!) (by kernel_rfl!) (by kernel_rfl!) fun h1 t1 D => ?_)
  refine wpAny_bind (eng_q 100 [] none rfl rfl D (by kernel_rfl!) (by kernel_rfl!) (by kernel_rfl!) fun h1 t1 D => ?_)
  refine wpAny_bind (eng_q 100 [] [.type "object"] rfl rfl D (by kernel_rfl!) (by kernel_rfl!) (by kernel_rfl!) fun h1 t1 D => ?_)
  refine wpAny_bind (eng_q 100 [] [.ref c, .type "object"] rfl rfl D (by kernel_rfl!) (by kernel_rfl!) (by kernel_rfl!) fun h1 t1 D => ?_)
  refine wpAny_bind (filt_any ?_)
  refine (eng_q 100 [] false rfl rfl D (by kernel_rfl!) (by kernel_rfl!) (by kernel_rfl!) fun h1 t1 D => ?_)
  replace D := D.eq (own' := [(L, slO u 1), (ns, ns1O w.params t sl sa f), (c, cl1O bT ns v (t 3))]) (by kernel_rfl!)
  refine Me.sub ?_
  clear hA0
  have hsz0 : ∃ n, n = h1.objs.size := ⟨_, rfl⟩
  obtain ⟨md, hmd⟩ := hsz0
  refine ez 600 [2, 2, 2, 2, 2, 2, 2, 1, 1, 1, 1, 1, 2, 2, 2, 2, 1, 1, 1, 1, 1, 1, 1, 1002, 1003, 1004, 1005, 1006, 1007, 1008, 1009, 3] hmd.symm rfl D (by kernel_rfl!) (by kernel_rfl!) [(L, slO u 1), (ns, nsF w.params t sl sa md f (t1 + 1) (t1 + 2)), (c, clO c ns bT v (t 3)), (md, mdO c t1)] (by kernel_rfl!) fun h3 t3 D => ?_
  refine cl_x (.call (.type "super") ⟨[.ref c, .ref c], []⟩) 50 150 hA (by kernel_rfl!) (by kernel_rfl!) ?_
  refine super_x (D.at 2 (p := (c, clO c ns bT v (t 3))) rfl) fun S h4 t4 l N => ?_
  replace D := D.nw1 N
  clear N
  refine ez 100 [4] rfl rfl D (by kernel_rfl!) (by kernel_rfl!) [(L, slO u 1), (ns, nsF w.params t sl sa md f (t1 + 1) (t1 + 2)), (c, clO c ns bT v (t 3)), (md, mdO c t1), (S, suO c)] (by kernel_rfl!) fun h5 t5 D => ?_
  have hA2 : Aok (20 + 10) (60 + 30) A := hA.le (by decide) (by decide)
  refine cl_c (.call (.builtin "super.__getattribute__") ⟨[.ref S, .str (Str.ofString "__init_subclass__") t4], []⟩) 10 30 20 60 hA2 (by kernel_rfl!) (by kernel_rfl!) fun B hB => ?_
  refine sg (c := c) (ns := ns) (bT := bT) (v := v) (q := t 3) hB ?_ fun Bm h6 t6 N => ?_
  · intro p hp
    simp only [sgK, List.mem_cons, List.not_mem_nil, or_false] at hp
    rcases hp with rfl | rfl | rfl
    · exact D.at 4 rfl
    · exact (D.kn (2, stO) (by simp [tnK, stO])).1
    · exact D.at 2 rfl
  replace D := D.nw1 N
  clear N
  refine ez 200 [0, 5, 2, 2, 2, 2] rfl rfl D (by kernel_rfl!) (by kernel_rfl!) [(L, slO u 1), (ns, nsF w.params t sl sa md f (t1 + 1) (t1 + 2)), (c, clO c ns bT v (t 3)), (md, mdO c t1), (S, suO c), (Bm, bmO c)] (by kernel_rfl!) fun h7 t7 D => ?_
  refine Me.ends (.ok (.ret (.ref c))) (by kernel_rfl!) ?_
  refine hQ c ns md (t1 + 1) (t1 + 2) t1 h7 _ (D.nw ?_)
  intro q hq
  simp only [List.mem_cons, List.not_mem_nil, or_false] at hq ⊢
  rcases hq with rfl | rfl | rfl <;> simp
end
end Mine
end

section
open PySem PySem.W PySem.W.X PySem.Calls PyProof.Rows
set_option maxRecDepth 100000
set_option linter.unusedVariables false
namespace Mine
section
variable {w : World} {A : Around} {s : Shared} {R : Result → Shared → Prop} {T : List Addr} {h₀ : Heap} {K : Ob}
theorem Me.code {c : Code} (h : Me (α := Unit) w A R (fun _ _ => True) (fun _ _ => True) (.sub (denote table c) c none .out) s) : codeAny (model prg w) A c R s := by
  refine x_code ?_
  have z := h.out
  rw [← Around.mark_none (A := A)] 
  exact z
theorem Mm.add {h : Heap} {own : Ob} {p : Addr × Obj} (D : Mm T h₀ h K own) (e : h.get? p.1 = some p.2) (n0 : h₀.get? p.1 = .none) (no : ∀ q ∈ own, q.1 ≠ p.1) (nk : ∀ q ∈ K, p.1 ≠ q.1) : Mm T h₀ h K (own ++ [p]) := by
  refine ⟨fun q hq => ?_, ?_, fun q hq => ⟨(D.kn q hq).1, fun q' hq' => ?_⟩, fun b o e hb => D.keep b o e fun q hq => hb q (List.mem_append_left _ hq), fun q hq => ?_⟩
  · rcases List.mem_append.mp hq with hq | hq
    · exact D.ow q hq
    · simp only [List.mem_cons, List.not_mem_nil, or_false] at hq
      subst hq; exact e
  · rw [List.map_append, List.nodup_append]
    refine ⟨D.nd, by simp, fun a ha b hb => ?_⟩
    obtain ⟨q, hq, rfl⟩ := List.mem_map.mp ha
    simp only [List.map_cons, List.map_nil, List.mem_cons, List.not_mem_nil, or_false] at hb
    subst hb
    exact no q hq
  · rcases List.mem_append.mp hq' with hq' | hq'
    · exact (D.kn q hq).2 q' hq'
    · simp only [List.mem_cons, List.not_mem_nil, or_false] at hq'
      subst hq'
      exact nk q hq
  · rcases List.mem_append.mp hq with hq | hq
    · exact D.fr q hq
    · simp only [List.mem_cons, List.not_mem_nil, or_false] at hq
      subst hq
      exact .inr n0
theorem Mm.adds {h : Heap} : ∀ {news own : Ob}, Mm T h₀ h K own → (∀ p ∈ news, h.get? p.1 = some p.2 ∧ h₀.get? p.1 = .none ∧ (∀ q ∈ own, q.1 ≠ p.1) ∧ ∀ q ∈ K, p.1 ≠ q.1) → (news.map (·.1)).Nodup → Mm T h₀ h K (own ++ news)
  | [], own, D, _, _ => by rw [List.append_nil]; exact D
  | p :: l, own, D, H, nd => by
    obtain ⟨e, n0, no, nk⟩ := H p (.head _)
    rw [List.map_cons, List.nodup_cons] at nd
    have z := (D.add e n0 no nk).adds (news := l) (fun q hq => ?_) nd.2
    · rw [List.append_assoc] at z; exact z
    · obtain ⟨e, n0, no, nk⟩ := H q (.tail _ hq)
      refine ⟨e, n0, fun q' hq' => ?_, nk⟩
      rcases List.mem_append.mp hq' with hq' | hq'
      · exact no q' hq'
      · simp only [List.mem_cons, List.not_mem_nil, or_false] at hq'
        subst hq'
        intro e
        exact nd.1 (e ▸ List.mem_map_of_mem hq)
theorem Mm.nws {h h' : Heap} {own news : Ob} (D : Mm T h₀ h K own) (N : Nw h h' news) (nd : (news.map (·.1)).Nodup) : Mm T h₀ h' K (own ++ news) := by
  refine (D.nw0 N).adds (fun p hp => ?_) nd
  obtain ⟨e1, e2⟩ := N.nw p hp
  refine ⟨e1, D.none e2, fun q hq e => ?_, fun q hq e => ?_⟩
  · have z := D.ow q hq
    rw [e, e2] at z; cases z
  · have z := (D.kn q hq).1
    rw [← e, e2] at z; cases z
/-- two objects of two kinds lie apart -/
theorem ne_of_objs {h : Heap} {a b : Addr} {o o' : Obj} (e : h.get? a = some o) (e' : h.get? b = some o') (n : o.cls ≠ o'.cls) : a ≠ b := by
  rintro rfl
  rw [e] at e'; cases e'; exact n rfl
end
section
variable {w : World} {A : Around} {s : Shared} {R : Result → Shared → Prop} {t : Nat → Tok} {bT nx sl sa : Addr} {f : Nat → Addr} {F : Nat → FuncData} {sv : List Value} {u v : Tok}
set_option maxHeartbeats 4000000 in
theorem tyCall (hA : Aok 60 200 A) (hk : ∀ p ∈ tnK w.params t bT (nx + 2) sl sa f F sv u, s.heap.get? p.1 = some p.2)
    (hQ : ∀ c ns md x y z h' tk, Nw s.heap h' [(ns, nsF w.params t sl sa md f x y), (c, clO c ns bT v (t 3)), (md, mdO c z)] → R (.ok (.ret (.ref c))) { s with heap := h', toks := tk }) :
    codeAny (model prg w) A (.call (.type "type") ⟨[.str (Str.ofString "K") v, .ref bT, .ref (nx + 2)], []⟩) R s := by
  refine Me.codeZ ?_
  refine ez 200 [] rfl rfl (nil_apart _ _ hk) (by kernel_rfl!) (by kernel_rfl!) [] (by kernel_rfl!) fun h1 t1 D => ?_
  have hA2 : Aok (50 + 10) (150 + 50) A := hA.le (by decide) (by decide)
  refine cl_c (.call (.builtin "type.__new__") (tnArgs (.str (Str.ofString "K") v) bT (nx + 2))) 10 50 50 150 hA2 (by kernel_rfl!) (by kernel_rfl!) fun B hB => ?_
  refine tnew (t := t) (sl := sl) (sa := sa) (f := f) (F := F) (sv := sv) (u := u) hB (fun p hp => (D.kn p hp).1) fun c ns md x y z h2 t2 N => ?_
  have e1 := (N.nw _ (.head _)).1
  have e2 := (N.nw _ (.tail _ (.head _))).1
  have e3 := (N.nw _ (.tail _ (.tail _ (.head _)))).1
  replace D := D.nws N (by
    simp only [List.map_cons, List.map_nil, List.nodup_cons, List.mem_cons, List.not_mem_nil, or_false, not_false_eq_true, List.nodup_nil, and_true, not_or]
    exact ⟨⟨ne_of_objs e1 e2 (show Value.type "dict" ≠ Value.type "type" by decide), ne_of_objs e1 e3 (show Value.type "dict" ≠ Value.type "member_descriptor" by decide)⟩, ne_of_objs e2 e3 (show Value.type "type" ≠ Value.type "member_descriptor" by decide)⟩)
  clear N
  refine ez 300 [1, 1, 0, 1] rfl rfl D (by kernel_rfl!) (by kernel_rfl!) [(ns, nsF w.params t sl sa md f x y), (c, clO c ns bT v (t 3)), (md, mdO c z)] (by kernel_rfl!) fun h3 t3 D => ?_
  refine Me.ends (.ok (.ret (.ref c))) (by kernel_rfl!) ?_
  exact hQ c ns md x y z h3 _ (D.nw fun q hq => hq)
end
end Mine
end

section
open PySem PySem.W PySem.W.X PySem.Calls PyProof.Rows
set_option maxRecDepth 100000
set_option linter.unusedVariables false
namespace Mine
noncomputable def kStm : Stmt := (bodyAt 1).getD 0 (.Pass default)
noncomputable def kName : Str := match kStm with | .ClassDef n .. => n | _ => ""
noncomputable def kBases : List PySem.Expr := match kStm with | .ClassDef _ b .. => b | _ => []
noncomputable def kBody : List Stmt := match kStm with | .ClassDef _ _ _ b .. => b | _ => []
noncomputable def kScope : Scope := match kStm with | .ClassDef _ _ _ _ _ _ s .. => s | _ => default
noncomputable def kBind : Str := match kStm with | .ClassDef _ _ _ _ _ _ _ _ b _ _ => b | _ => default
noncomputable def kStat : List Str := match kStm with | .ClassDef _ _ _ _ _ _ _ _ _ t _ => t | _ => []
noncomputable def kPos : Pos := match kStm with | .ClassDef _ _ _ _ _ _ _ _ _ _ p => p | _ => default
noncomputable def ckF (P : Params) : FuncData := fnD 1 (.ref 20) .none (.str (Str.ofString "cpy313.functools") 187) 3 .none 0
end Mine
end

section
open PySem PySem.W PySem.W.X PySem.Calls PyProof.Rows
set_option maxRecDepth 100000
set_option linter.unusedVariables false
namespace Mine
section
variable {w : World} {α : Type} {A : Around} {Z : Result → Shared → Prop} {Q : α → Shared → Prop} {E : Value → Shared → Prop} {T : List Addr} {h₀ : Heap} {K : Ob}
theorem engS {s : Shared} {st : St α} {own : Ob} {n tk : Nat} (f : Nat) (hs : List Nat) (hn : s.heap.objs.size = n) (ht : s.toks = tk) (D : Mm T h₀ s.heap K own) (e : (go ⟨prg, w.params⟩ n tk K f hs st own 0 0 [] []).isSome = true)
    (he : (ran (go ⟨prg, w.params⟩ n tk K f hs st own 0 0 [] [])).l = (ran (go ⟨prg, w.params⟩ n tk K f hs st own 0 0 [] [])).r)
    (hQ : ∀ h', Mm T h₀ h' K (ran (go ⟨prg, w.params⟩ n tk K f hs st own 0 0 [] [])).own → h'.objs.size = n + (ran (go ⟨prg, w.params⟩ n tk K f hs st own 0 0 [] [])).m →
      Me w A Z Q E (ran (go ⟨prg, w.params⟩ n tk K f hs st own 0 0 [] [])).st { s with heap := h', toks := tk + (ran (go ⟨prg, w.params⟩ n tk K f hs st own 0 0 [] [])).t }) : Me w A Z Q E st s := by
  subst ht
  exact ⟨go_snd f _ _ _ 0 0 [] [] _ _ (ran_is e) he rfl D (by omega) fun h' D' z => (hQ h' D' z).out⟩
/-- the run over the fast twin, with the heap's size and the tokens told -/
theorem ezS {s : Shared} {st : St α} {own : Ob} {n tk : Nat} (f : Nat) (hs : List Nat) (hn : s.heap.objs.size = n) (ht : s.toks = tk) (D : Mm T h₀ s.heap K own) (e : (gz ⟨prg, w.params⟩ n tk K f hs st own 0 0 [] []).isSome = true)
    (he : (ran (gz ⟨prg, w.params⟩ n tk K f hs st own 0 0 [] [])).l = (ran (gz ⟨prg, w.params⟩ n tk K f hs st own 0 0 [] [])).r) (m t : Nat) (hm : (ran (gz ⟨prg, w.params⟩ n tk K f hs st own 0 0 [] [])).m = m) (htk : (ran (gz ⟨prg, w.params⟩ n tk K f hs st own 0 0 [] [])).t = t)
    (hQ : ∀ h', Mm T h₀ h' K (ran (gz ⟨prg, w.params⟩ n tk K f hs st own 0 0 [] [])).own → h'.objs.size = n + m → Me w A Z Q E (ran (gz ⟨prg, w.params⟩ n tk K f hs st own 0 0 [] [])).st { s with heap := h', toks := tk + t }) : Me w A Z Q E st s := by
  subst hm htk
  have key : ∀ dn, denote table = dn → (goD dn ⟨prg, w.params⟩ n tk K f hs st own 0 0 [] []).isSome = true → (ran (goD dn ⟨prg, w.params⟩ n tk K f hs st own 0 0 [] [])).l = (ran (goD dn ⟨prg, w.params⟩ n tk K f hs st own 0 0 [] [])).r →
      (∀ h', Mm T h₀ h' K (ran (goD dn ⟨prg, w.params⟩ n tk K f hs st own 0 0 [] [])).own → h'.objs.size = n + (ran (goD dn ⟨prg, w.params⟩ n tk K f hs st own 0 0 [] [])).m → Me w A Z Q E (ran (goD dn ⟨prg, w.params⟩ n tk K f hs st own 0 0 [] [])).st { s with heap := h', toks := tk + (ran (goD dn ⟨prg, w.params⟩ n tk K f hs st own 0 0 [] [])).t }) → Me w A Z Q E st s := by
    rintro _ rfl e he hQ
    exact engS f hs hn ht D e he hQ
  exact key _ dZ_eq e he hQ
/-- of the own objects some, the first among them -/
theorem Mm.sel {h : Heap} {own own2 : Ob} (D : Mm T h₀ h K own) (a : Addr) (o : Obj) (n k : Nat) (I : List Nat) (hn : h₀.objs.size ≤ n) (ha : own.map (·.1) = a :: (List.range k).map (n + ·)) (h0 : own[0]? = some (a, o)) (hs : I.map (fun i => own[i + 1]?) = own2.map some) (hI : I.Nodup) : Mm T h₀ h K ((a, o) :: own2) := by
  have sub : ∀ p ∈ own2, ∃ i, i ∈ I ∧ own[i + 1]? = some p := fun p hp => by
    have : some p ∈ I.map (fun i => own[i + 1]?) := hs ▸ List.mem_map_of_mem hp
    obtain ⟨i, hi, e⟩ := List.mem_map.mp this
    exact ⟨i, hi, e⟩
  have sub' : ∀ p ∈ (a, o) :: own2, p ∈ own := fun p hp => by
    rcases List.mem_cons.mp hp with rfl | hp
    · exact List.mem_of_getElem? h0
    · obtain ⟨i, _, e⟩ := sub p hp
      exact List.mem_of_getElem? e
  have big : ∀ q ∈ own, q.1 = a ∨ n ≤ q.1 := fun q hq => by
    have : q.1 ∈ own.map (·.1) := List.mem_map_of_mem hq
    rw [ha] at this
    rcases List.mem_cons.mp this with e | e
    · exact .inl e
    · obtain ⟨i, _, e⟩ := List.mem_map.mp e
      exact .inr (by have e : n + i = q.1 := e; omega)
  refine ⟨fun p hp => D.ow p (sub' p hp), ?_, fun p hp => ⟨(D.kn p hp).1, fun q hq => (D.kn p hp).2 q (sub' q hq)⟩, fun b ob e hb => ?_, fun q hq => D.fr q (sub' q hq)⟩
  · have nd := D.nd
    have inj : ∀ i j x, (own.map (·.1))[i]? = some x → (own.map (·.1))[j]? = some x → i = j := fun i j x e1 e2 => by
      obtain ⟨l1, e1⟩ := List.getElem?_eq_some_iff.mp e1
      obtain ⟨l2, e2⟩ := List.getElem?_eq_some_iff.mp e2
      rcases Nat.lt_trichotomy i j with lt | lt | lt
      · exact absurd (e1.trans e2.symm) ((List.pairwise_iff_getElem.mp nd) i j l1 l2 lt)
      · exact lt
      · exact absurd (e2.trans e1.symm) ((List.pairwise_iff_getElem.mp nd) j i l2 l1 lt)
    have em : (own2.map (·.1)).map some = I.map fun i => (own.map (·.1))[i + 1]? := by
      have : (own2.map some).map (fun x => x.map (·.1)) = (I.map (fun i => own[i + 1]?)).map (fun x => x.map (·.1)) := by rw [hs]
      simp only [List.map_map] at this ⊢
      rw [show (some ∘ fun (x : Addr × Obj) => x.1) = ((fun x => x.map (·.1)) ∘ some) from rfl, this]
      refine List.map_congr_left fun i _ => ?_
      simp [List.getElem?_map]
    rw [List.map_cons, List.nodup_cons]
    constructor
    · intro hmem
      obtain ⟨p, hp, ep⟩ := List.mem_map.mp hmem
      obtain ⟨i, _, e⟩ := sub p hp
      have z1 : (own.map (·.1))[0]? = some a := by rw [List.getElem?_map, h0]; rfl
      have z2 : (own.map (·.1))[i + 1]? = some a := by rw [List.getElem?_map, e]; exact congrArg some ep
      exact absurd (inj _ _ _ z1 z2) (by omega)
    · have : ((own2.map (·.1)).map some).Nodup := by
        rw [em]
        refine List.Pairwise.map _ (fun i j (hij : i ≠ j ∧ (i ∈ I ∧ j ∈ I)) => ?_) (List.Pairwise.imp_of_mem (S := fun i j => i ≠ j ∧ (i ∈ I ∧ j ∈ I)) (fun hi hj hne => ⟨hne, hi, hj⟩) hI)
        intro e
        have hi : ∃ x, (own.map (·.1))[i + 1]? = some x := by
          have : (own.map (·.1))[i + 1]? ∈ (own2.map (·.1)).map some := em ▸ List.mem_map_of_mem hij.2.1
          obtain ⟨x, _, e⟩ := List.mem_map.mp this
          exact ⟨x, e.symm⟩
        obtain ⟨x, ex⟩ := hi
        exact hij.1 (by have := inj _ _ _ ex (e ▸ ex); omega)
      exact List.Pairwise.of_map some (fun a b h e => h (congrArg some e)) this
  · refine D.keep b ob e fun q hq hqb => ?_
    rcases big q hq with e' | e'
    · exact hb (a, o) (.head _) (e'.symm.trans hqb)
    · rw [← hqb] at e
      exact (Nat.lt_irrefl _ (Nat.lt_of_lt_of_le (Heap.lt_size e) (Nat.le_trans hn e'))).elim
end
noncomputable def topOf {β : Type} : St β → Sem β
  | .top t => t
  | _ => .unsupported ""
noncomputable def stk {β : Type} : Sem β → List (Code × Pos) → Sem β
  | .stack k => k
  | _ => fun _ => .unsupported ""
noncomputable def ldk {β : Type} : Sem β → Obj → Sem β
  | .load _ _ k => k
  | _ => fun _ => .unsupported ""
noncomputable def ldp {β : Type} : Sem β → Option Value
  | .load _ p _ => p
  | _ => none
theorem eq_stk : enterQ 0 = .stack (stk (enterQ 0)) := rfl
theorem eq_ldk (st : List (Code × Pos)) : stk (enterQ 0) st = .load cStatics (ldp (stk (enterQ 0) st)) (ldk (stk (enterQ 0) st)) := rfl
theorem eq_done {A : Around} {st : List (Code × Pos)} (l : Lies A st) (hd : A.depth < recursionLimit) : ldk (stk (enterQ 0) st) ⟨.none, none, .dict #[] 0, #[]⟩ = .pure () := by
  show cond (nearF st 0 recursionLimit) _ (cond (overF st 0 recursionLimit) _ (cond (warmF st 0 recursionLimit) _ (.pure ()))) = Sem.pure ()
  rw [show nearF st 0 recursionLimit = false from l.near' hd 0, show overF st 0 recursionLimit = false from l.over hd 0, show warmF st 0 recursionLimit = false from l.warm hd 0]
  rfl
noncomputable def FF {β : Type} (sg : Setting) (n tk : Nat) (K : Ob) (f : Nat) (hs : List Nat) (own : Ob) (T : Sem Unit → Sem β) (X : Sem Unit) : Sem β := topOf (ran (gz (α := β) sg n tk K f hs (.top (T X)) own 0 0 [] [])).st
section
variable {w : World} {β : Type} {A : Around} {Q : β → Shared → Prop} {E : Value → Shared → Prop} {T₀ : List Addr} {h₀ : Heap} {K : Ob}
/-- past the look at the frames' number -/
theorem past_enter {T : Sem Unit → Sem β} {s : Shared} {own : Ob} {n tk : Nat} (f : Nat) (hs : List Nat) (hn : s.heap.objs.size = n) (ht : s.toks = tk) (D : Mm T₀ h₀ s.heap K own) (hd : A.depth < recursionLimit)
    (e : ∀ X, (gz (α := β) ⟨prg, w.params⟩ n tk K f hs (.top (T X)) own 0 0 [] []).isSome = true)
    (he : ∀ X, (ran (gz (α := β) ⟨prg, w.params⟩ n tk K f hs (.top (T X)) own 0 0 [] [])).l = (ran (gz (α := β) ⟨prg, w.params⟩ n tk K f hs (.top (T X)) own 0 0 [] [])).r) (m t : Nat) (hm : ∀ X, (ran (gz (α := β) ⟨prg, w.params⟩ n tk K f hs (.top (T X)) own 0 0 [] [])).m = m) (htk : ∀ X, (ran (gz (α := β) ⟨prg, w.params⟩ n tk K f hs (.top (T X)) own 0 0 [] [])).t = t) (own' : Ob)
    (ho : ∀ X, (ran (gz (α := β) ⟨prg, w.params⟩ n tk K f hs (.top (T X)) own 0 0 [] [])).own = own')
    (hF : ∀ X, (ran (gz (α := β) ⟨prg, w.params⟩ n tk K f hs (.top (T X)) own 0 0 [] [])).st = .top (FF ⟨prg, w.params⟩ n tk K f hs own T X))
    (c1 : ∀ k, FF ⟨prg, w.params⟩ n tk K f hs own T (.stack k) = .stack fun st => FF ⟨prg, w.params⟩ n tk K f hs own T (k st)) (c2 : ∀ a p k, FF ⟨prg, w.params⟩ n tk K f hs own T (.load a p k) = .load a p fun o => FF ⟨prg, w.params⟩ n tk K f hs own T (k o))
    (hl : ∀ h', Mm T₀ h₀ h' K own' → h'.get? cStatics = some ⟨.none, none, .dict #[] 0, #[]⟩)
    (hQ : ∀ h', Mm T₀ h₀ h' K own' → h'.objs.size = n + m → Me w A (fun _ _ => True) Q E (.top (FF ⟨prg, w.params⟩ n tk K f hs own T (.pure ()))) { s with heap := h', toks := tk + t }) :
    ∀ X : Sem Unit, ZFast.enterX 0 = X → wpAny (model prg w) A (T X) Q E s := by
  rintro _ rfl
  refine Me.top ?_
  refine ezS f hs hn ht D (e _) (he _) m t (hm _) (htk _) fun h' D' z => ?_
  rw [ho] at D'
  rw [hF, ← ZFast.enterX_eq, X.enterQ_eq, eq_stk, c1]
  refine ⟨?_⟩
  show wpAny _ _ _ _ _ _
  intro Γ p hΓ
  rw [Sem.wp_stack, eq_ldk, c2, Sem.wp_load]
  refine ⟨_, hl _ D', ?_⟩
  rw [eq_done (X.lies_of (p := p) hΓ) hd]
  exact (hQ _ D' z).out Γ p hΓ
end
end Mine
end

section
open PySem PySem.W PySem.W.X PySem.Calls PyProof.Rows
set_option maxRecDepth 100000
set_option linter.unusedVariables false
namespace Mine
noncomputable def kO (P : Params) (a : Addr) : Obj := match (K P).lookup a with | some o => o | none => ⟨.none, none, .dict #[] 0, #[]⟩
noncomputable def mdl (sl : Array (Option Value)) : Obj := ⟨.type "module", some builtinsNs, .plain, sl⟩
noncomputable def bcK (P : Params) (sl : Array (Option Value)) : Ob := [(20, kO P 20), (3, kO P 3), (4, mdl sl), (2, stO)]
noncomputable def ckE (P : Params) (L : Addr) : Env := callEnvC (ckF P) L 21
noncomputable def codK (t0 t1 t2 t3 t4 : Tok) (tu p : Addr) : Obj := ⟨.type "code", none, .fields #[.str (Str.ofString "K") t0, .str (Str.ofString "cmp_to_key.<locals>.K") t1, .str (Str.ofString "/claim/cut.py") t2, .int 4 0, .int 0 0, .int 0 0, .int 0 0, .int 0 0, .ref tu, .bool true, .int 181 0, .ref p, .none, .none, .none, .none, .int (t3 : Int) 0, .int 4 0, .str (Str.ofString "/claim/cut.py") t4], #[]⟩
noncomputable def tabK (c : Nat → Addr) : Obj := tabObj #[.int 8 0, .int 8 0, .ref (c 0), .int 11 0, .int 8 0, .ref (c 1), .int 14 0, .int 8 0, .ref (c 2), .int 17 0, .int 8 0, .ref (c 3), .int 20 0, .int 8 0, .ref (c 4), .int 23 0, .int 8 0, .ref (c 5)]
noncomputable def kfn (i : Nat) (q : Str) (cl : List (Str × Addr)) (code ct : Value) : FuncData := match kBody.getD (i + 2) (.Pass default) with
  | .FunctionDef _ args body _ _ _ scope _ _ _ => { name := q, qualname := Str.ofString "cmp_to_key.<locals>.K." ++ q, params := args, body := .stmts body, scope := scope, globals := 3, closure := cl, defaults := .none, kwdefaults := .none, doc := .none, pyModule := .str (Str.ofString "law_pe0222_01") 2239, annotations := none, code := code, closureTuple := ct, builtins := 0 }
  | _ => default
noncomputable def kNm (i : Nat) : Str := [Str.ofString "__init__", Str.ofString "__lt__", Str.ofString "__gt__", Str.ofString "__eq__", Str.ofString "__le__", Str.ofString "__ge__"].getD i ""
noncomputable def kF (cell : Addr) (c ct : Nat → Addr) (i : Nat) : FuncData := match i with
  | 0 => kfn 0 (kNm 0) [] (.ref (c 0)) .none
  | i => kfn i (kNm i) [(Str.ofString "mycmp", cell)] (.ref (c i)) (.ref (ct i))
noncomputable def pk (l : List Nat) (n : Nat) (i : Nat) : Nat := n + l.getD i 0
noncomputable def own1 (n tk : Nat) : Ob := [(16, tabObj #[.int 4 0, .int 4 0, .ref (n + 5)]), (n + 0, tupO [.type "object"]), (n + 1, ⟨(.type "builtin_function_or_method"), none, (.fields #[(.builtin "type.__prepare__"), (.type "type")]), #[]⟩), (n + 2, ⟨.type "dict", none, .dict #[] 0, #[]⟩),
  (n + 3, tupO [.str (Str.ofString "mycmp") (tk + 5)]), (n + 4, tabObj #[]), (n + 5, codK (tk + 2) (tk + 3) (tk + 4) (tk + 6) (tk + 7) (n + 3) (n + 4)), (n + 6, ⟨(.type "frame"), none, .plain, #[some (.ref (n + 5)), some (.ref 3), some (.ref (n + 2)), none, some (.str (Str.ofString "law_pe0222_01") 2239), none, some (.ref 0)]⟩)]
noncomputable def codM (nm : Str) (line : Int) (t0 t1 t2 t3 t4 : Tok) (a b c d e : Addr) : Obj := ⟨.type "code", none, .fields #[.str nm t0, .str (Str.ofString "cmp_to_key.<locals>.K." ++ nm) t1, .str (Str.ofString "/claim/cut.py") t2, .int line 0, .int 2 0, .int 0 0, .int 0 0, .int 19 0, .ref a, .bool true, .int 181 0, .ref b, .none, .ref c, .ref d, .ref e, .int (t3 : Int) 0, .int line 0, .str (Str.ofString "/claim/cut.py") t4], #[]⟩
noncomputable def mT (P : Params) (n tk L : Nat) : Ob := tnK P (pk [8, 13, 10, 9, 12, 11, 16, 24, 33, 42, 51, 60, 69, 70, 72] tk) (n + 0) (n + 2) (n + 7) (n + 55) (pk [14, 22, 30, 38, 46, 54] n) (kF (L + 1) (pk [13, 21, 29, 37, 45, 53] n) (pk [0, 15, 23, 31, 39, 47] n)) [.str (Str.ofString "obj") (tk + 71)] (tk + 15)
noncomputable def mOwn (P : Params) (n tk L : Nat) : Ob := (mT P n tk L).take 10 ++ [(n + 4, tabK (pk [13, 21, 29, 37, 45, 53] n)), (n + 5, codK (tk + 2) (tk + 3) (tk + 4) (tk + 6) (tk + 7) (n + 3) (n + 4)),
  (n + 13, codM (kNm 0) 8 (tk + 17) (tk + 18) (tk + 19) (tk + 22) (tk + 23) (n + 8) (n + 9) (n + 10) (n + 11) (n + 12)), (n + 21, codM (kNm 1) 11 (tk + 25) (tk + 26) (tk + 27) (tk + 31) (tk + 32) (n + 16) (n + 17) (n + 18) (n + 19) (n + 20))]
noncomputable def kh (P : Params) (x : Str) : Int := if x.cps.isEmpty then 0 else ZFast.zw12210062019545310541 (P.strHash x.cps)
theorem kh_eq : PyData.keyHash = kh := by
  funext P x
  unfold PyData.keyHash kh
  rw [ZFast.ze12210062019545310541]
section
variable {w : World} {A : Around} {E : Value → Shared → Prop} {s : Shared} {Q : Value → Shared → Prop}
set_option maxHeartbeats 4000000 in
theorem bc_miss {L : Addr} {sl : Array (Option Value)} (hA : Aok 80 300 A) (D : Mm [16] s.heap s.heap (bcK w.params sl) [(16, tabObj #[])])
    (hQ : ∀ n tk c ns md x y z h' t', Mm [16] s.heap h' (bcK w.params sl) (((16, tabObj #[.int 4 0, .int 4 0, .ref (n + 5)]) :: mOwn w.params n tk L) ++ [(ns, nsF w.params (pk [8, 13, 10, 9, 12, 11, 16, 24, 33, 42, 51, 60, 69, 70, 72] tk) (n + 7) (n + 55) md (pk [14, 22, 30, 38, 46, 54] n) x y), (c, clO c ns (n + 0) (tk + 0) (tk + 9)), (md, mdO c z)]) → Q (.ref c) { s with heap := h', toks := t' }) :
    wpAny (model prg w) A (buildClass kName (qualnameIn (ckE w.params L) kName kBind) [.type "object"] [] kBody kScope kStat (firstLineOf [] kPos) (ckE w.params L) kPos none) Q E s := by
  rw [ZFast.ze1785580099245652887]
  delta ZFast.zw1785580099245652887
  generalize hF : ZFast.enterX 0 = X
  revert hF
  revert X
  obtain ⟨n, hn⟩ : ∃ n, n = s.heap.objs.size := ⟨_, rfl⟩
  obtain ⟨tk, ht⟩ : ∃ tk, tk = s.toks := ⟨_, rfl⟩
  refine past_enter 400 [0, 0, 0, 2, 3, 1000, 0, 0, 0, 0, 1001, 1002, 1001, 4000] hn.symm ht.symm D ?hd ?e ?he 7 8 ?hm ?ht (own1 n tk) ?ho ?hF ?c1 ?c2 ?hl ?hQ
  case hd => have := hA.hd; show A.depth < 1000; omega
  case e => intro X; kernel_rfl!
  case he => intro X; kernel_rfl!
  case hm => intro X; kernel_rfl!
  case ht => intro X; kernel_rfl!
  case ho => intro X; kernel_rfl!
  case hF => intro X; kernel_rfl!
  case c1 => intro X; kernel_rfl!
  case c2 => intro a p k; kernel_rfl!
  case hl => intro h' D; exact (D.kn (2, stO) (by simp [bcK])).1
  intro h1 D z1
  refine ezS 3000 [3, 3, 1001, 3, 3, 3, 3, 3, 3, 3, 3, 3, 0, 3, 3, 3, 3, 3, 3, 6, 5, 5, 5, 5, 1001, 1002, 1001, 3, 3, 3, 6, 5, 5, 5, 5, 1001, 1002, 1001, 3, 3, 3, 6, 5, 5, 5, 5, 1001, 1002, 1001, 3, 3, 3, 6, 5, 5, 5, 5, 1001, 1002, 1001, 3, 3, 3, 6, 5, 5, 5, 5, 1001, 1002, 1001, 3, 3, 3, 6, 5, 5, 5, 5, 1001, 1002, 1001, 3, 3, 3, 3, 3, 3, 3, 3, 3]
    (n := n + 7) (tk := tk + 8) z1 rfl D ?e2 ?he2 49 65 ?hm2 ?ht2 ?hQ2
  case e2 => kernel_rfl!
  case he2 => kernel_rfl!
  case hm2 => kernel_rfl!
  case ht2 => kernel_rfl!
  intro h2 D z2
  replace D := D.sel 16 (tabObj #[.int 4 0, .int 4 0, .ref (n + 5)]) n 56 [0, 2, 7, 14, 22, 30, 38, 46, 54, 55, 4, 5, 13, 21] (own2 := mOwn w.params n tk L) (Nat.le_of_eq hn.symm) ?ha ?h0 ?hs (by decide)
  case ha => kernel_rfl!
  case h0 => kernel_rfl!
  case hs => delta mOwn mT tnK nsO nsE; rewrite [kh_eq]; kernel_rfl!
  have hA2 : Aok (60 + 0) (200 + 0) A := hA.le (by decide) (by decide)
  refine cl_c (.call (.type "type") ⟨[.str (Str.ofString "K") (tk + 0), .ref (n + 0), .ref (n + 2)], []⟩) 0 0 60 200 hA2 (by kernel_rfl!) (by kernel_rfl!) fun B hB => ?_
  refine tyCall (t := pk [8, 13, 10, 9, 12, 11, 16, 24, 33, 42, 51, 60, 69, 70, 72] tk) (bT := n + 0) (nx := n) (sl := n + 7) (sa := n + 55) (f := pk [14, 22, 30, 38, 46, 54] n) (F := kF (L + 1) (pk [13, 21, 29, 37, 45, 53] n) (pk [0, 15, 23, 31, 39, 47] n)) (sv := [.str (Str.ofString "obj") (tk + 71)]) (u := tk + 15) (v := tk + 0) hB ?hk ?hz
  case hk =>
    intro p hp
    have hp : p ∈ (mT w.params n tk L).take 10 ++ [(2, stO)] := hp
    rcases List.mem_append.mp hp with hp | hp
    · exact D.ow p (.tail _ (List.mem_append_left _ hp))
    · simp only [List.mem_cons, List.not_mem_nil, or_false] at hp
      subst hp
      exact (D.kn (2, stO) (by simp [bcK])).1
  intro c ns md x y z h3 t3 N
  have e1 := (N.nw _ (.head _)).1
  have e2 := (N.nw _ (.tail _ (.head _))).1
  have e3 := (N.nw _ (.tail _ (.tail _ (.head _)))).1
  replace D := D.nws N (by
    simp only [List.map_cons, List.map_nil, List.nodup_cons, List.mem_cons, List.not_mem_nil, or_false, not_false_eq_true, List.nodup_nil, and_true, not_or]
    exact ⟨⟨ne_of_objs e1 e2 (show Value.type "dict" ≠ Value.type "type" by decide), ne_of_objs e1 e3 (show Value.type "dict" ≠ Value.type "member_descriptor" by decide)⟩, ne_of_objs e2 e3 (show Value.type "type" ≠ Value.type "member_descriptor" by decide)⟩)
  refine ez 100 [] rfl rfl D ?e3 ?he3 (((16, tabObj #[.int 4 0, .int 4 0, .ref (n + 5)]) :: mOwn w.params n tk L) ++ [(ns, nsF w.params (pk [8, 13, 10, 9, 12, 11, 16, 24, 33, 42, 51, 60, 69, 70, 72] tk) (n + 7) (n + 55) md (pk [14, 22, 30, 38, 46, 54] n) x y), (c, clO c ns (n + 0) (tk + 0) (tk + 9)), (md, mdO c z)]) ?ho3 fun h4 t4 D => ?_
  case ho3 => kernel_rfl!
  case e3 => kernel_rfl!
  case he3 => kernel_rfl!
  refine Me.tops (.ref c) (by kernel_rfl!) ?_
  exact hQ n tk c ns md x y z h4 _ D
end
end Mine
end

section
open PySem PySem.W PySem.W.X PySem.Calls PyProof.Rows
set_option maxRecDepth 100000
set_option linter.unusedVariables false
namespace Mine
noncomputable def bcKh (P : Params) (sl : Array (Option Value)) (k p : Addr) (o : Obj) (c : Nat → Addr) : Ob := bcK P sl ++ [(k, o), (p, tabK c)]
noncomputable def own1h (n k : Nat) : Ob := [(16, tabObj #[.int 4 0, .int 4 0, .ref k]), (n + 0, tupO [.type "object"]), (n + 1, ⟨(.type "builtin_function_or_method"), none, (.fields #[(.builtin "type.__prepare__"), (.type "type")]), #[]⟩), (n + 2, ⟨.type "dict", none, .dict #[] 0, #[]⟩),
  (n + 3, ⟨(.type "frame"), none, .plain, #[some (.ref k), some (.ref 3), some (.ref (n + 2)), none, some (.str (Str.ofString "law_pe0222_01") 2239), none, some (.ref 0)]⟩)]
noncomputable def hT (P : Params) (n tk L : Nat) (c : Nat → Addr) : Ob := tnK P (pk [2, 7, 4, 3, 6, 5, 10, 11, 12, 13, 14, 15, 16, 17, 19] tk) (n + 0) (n + 2) (n + 4) (n + 16) (pk [5, 7, 9, 11, 13, 15] n) (kF (L + 1) c (pk [0, 6, 8, 10, 12, 14] n)) [.str (Str.ofString "obj") (tk + 18)] (tk + 9)
noncomputable def hOwn (P : Params) (n tk L : Nat) (c : Nat → Addr) : Ob := (hT P n tk L c).take 10
section
variable {w : World} {A : Around} {E : Value → Shared → Prop} {s : Shared} {Q : Value → Shared → Prop}
set_option maxHeartbeats 4000000 in
theorem bc_hit {L : Addr} {sl : Array (Option Value)} {k p tu : Addr} {t0 t1 t2 t3 t4 : Tok} {cc : Nat → Addr} (hA : Aok 80 300 A) (D : Mm [16] s.heap s.heap (bcKh w.params sl k p (codK t0 t1 t2 t3 t4 tu p) cc) [(16, tabObj #[.int 4 0, .int 4 0, .ref k])])
    (hQ : ∀ n tk c ns md x y z h' t', Mm [16] s.heap h' (bcKh w.params sl k p (codK t0 t1 t2 t3 t4 tu p) cc) (((16, tabObj #[.int 4 0, .int 4 0, .ref k]) :: hOwn w.params n tk L cc) ++ [(ns, nsF w.params (pk [2, 7, 4, 3, 6, 5, 10, 11, 12, 13, 14, 15, 16, 17, 19] tk) (n + 4) (n + 16) md (pk [5, 7, 9, 11, 13, 15] n) x y), (c, clO c ns (n + 0) (tk + 0) (tk + 3)), (md, mdO c z)]) → Q (.ref c) { s with heap := h', toks := t' }) :
    wpAny (model prg w) A (buildClass kName (qualnameIn (ckE w.params L) kName kBind) [.type "object"] [] kBody kScope kStat (firstLineOf [] kPos) (ckE w.params L) kPos none) Q E s := by
  rw [ZFast.ze1785580099245652887]
  delta ZFast.zw1785580099245652887
  generalize hF : ZFast.enterX 0 = X
  revert hF
  revert X
  obtain ⟨n, hn⟩ : ∃ n, n = s.heap.objs.size := ⟨_, rfl⟩
  obtain ⟨tk, ht⟩ : ∃ tk, tk = s.toks := ⟨_, rfl⟩
  refine past_enter 400 [0, 0, 0, 2, 3, 1000, 0, 1001, 1002, 1001, 4000] hn.symm ht.symm D ?hd ?e ?he 4 2 ?hm ?ht (own1h n k) ?ho ?hF ?c1 ?c2 ?hl ?hQ
  case hd => have := hA.hd; show A.depth < 1000; omega
  case e => intro X; kernel_rfl!
  case he => intro X; kernel_rfl!
  case hm => intro X; kernel_rfl!
  case ht => intro X; kernel_rfl!
  case ho => intro X; kernel_rfl!
  case hF => intro X; kernel_rfl!
  case c1 => intro X; kernel_rfl!
  case c2 => intro a p k; kernel_rfl!
  case hl => intro h' D; exact (D.kn (2, stO) (by simp [bcK, bcKh])).1
  intro h1 D z1
  refine ezS 3000 [3, 3, 1001, 3, 3, 3, 3, 3, 3, 3, 3, 3, 0, 3, 3, 3, 3, 3, 3, 1004, 1005, 1001, 1002, 1001, 3, 3, 3, 1004, 1005, 1001, 1002, 1001, 3, 3, 3, 1004, 1005, 1001, 1002, 1001, 3, 3, 3, 1004, 1005, 1001, 1002, 1001, 3, 3, 3, 1004, 1005, 1001, 1002, 1001, 3, 3, 3, 1004, 1005, 1001, 1002, 1001, 3, 3, 3, 3, 3, 3, 3, 3, 3]
    (n := n + 4) (tk := tk + 2) z1 rfl D ?e2 ?he2 13 18 ?hm2 ?ht2 ?hQ2
  case e2 => kernel_rfl!
  case he2 => kernel_rfl!
  case hm2 => kernel_rfl!
  case ht2 => kernel_rfl!
  intro h2 D z2
  replace D := D.sel 16 (tabObj #[.int 4 0, .int 4 0, .ref k]) n 17 [0, 2, 4, 5, 7, 9, 11, 13, 15, 16] (own2 := hOwn w.params n tk L cc) (Nat.le_of_eq hn.symm) ?ha ?h0 ?hs (by decide)
  case ha => kernel_rfl!
  case h0 => kernel_rfl!
  case hs => delta hOwn hT tnK nsO nsE; rewrite [kh_eq]; kernel_rfl!
  have hA2 : Aok (60 + 0) (200 + 0) A := hA.le (by decide) (by decide)
  refine cl_c (.call (.type "type") ⟨[.str (Str.ofString "K") (tk + 0), .ref (n + 0), .ref (n + 2)], []⟩) 0 0 60 200 hA2 (by kernel_rfl!) (by kernel_rfl!) fun B hB => ?_
  refine tyCall (t := pk [2, 7, 4, 3, 6, 5, 10, 11, 12, 13, 14, 15, 16, 17, 19] tk) (bT := n + 0) (nx := n) (sl := n + 4) (sa := n + 16) (f := pk [5, 7, 9, 11, 13, 15] n) (F := kF (L + 1) cc (pk [0, 6, 8, 10, 12, 14] n)) (sv := [.str (Str.ofString "obj") (tk + 18)]) (u := tk + 9) (v := tk + 0) hB ?hk ?hz
  case hk =>
    intro p hp
    have hp : p ∈ (hT w.params n tk L cc).take 10 ++ [(2, stO)] := hp
    rcases List.mem_append.mp hp with hp | hp
    · exact D.ow p (.tail _ hp)
    · simp only [List.mem_cons, List.not_mem_nil, or_false] at hp
      subst hp
      exact (D.kn (2, stO) (by simp [bcK, bcKh])).1
  intro c ns md x y z h3 t3 N
  have e1 := (N.nw _ (.head _)).1
  have e2 := (N.nw _ (.tail _ (.head _))).1
  have e3 := (N.nw _ (.tail _ (.tail _ (.head _)))).1
  replace D := D.nws N (by
    simp only [List.map_cons, List.map_nil, List.nodup_cons, List.mem_cons, List.not_mem_nil, or_false, not_false_eq_true, List.nodup_nil, and_true, not_or]
    exact ⟨⟨ne_of_objs e1 e2 (show Value.type "dict" ≠ Value.type "type" by decide), ne_of_objs e1 e3 (show Value.type "dict" ≠ Value.type "member_descriptor" by decide)⟩, ne_of_objs e2 e3 (show Value.type "type" ≠ Value.type "member_descriptor" by decide)⟩)
  refine ez 100 [] rfl rfl D ?e3 ?he3 (((16, tabObj #[.int 4 0, .int 4 0, .ref k]) :: hOwn w.params n tk L cc) ++ [(ns, nsF w.params (pk [2, 7, 4, 3, 6, 5, 10, 11, 12, 13, 14, 15, 16, 17, 19] tk) (n + 4) (n + 16) md (pk [5, 7, 9, 11, 13, 15] n) x y), (c, clO c ns (n + 0) (tk + 0) (tk + 3)), (md, mdO c z)]) ?ho3 fun h4 t4 D => ?_
  case ho3 => kernel_rfl!
  case e3 => kernel_rfl!
  case he3 => kernel_rfl!
  refine Me.tops (.ref c) (by kernel_rfl!) ?_
  exact hQ n tk c ns md x y z h4 _ D
end
end Mine
end

section
open PySem PySem.W PySem.W.X PySem.Calls PyProof.Rows
set_option maxRecDepth 100000
set_option linter.unusedVariables false
namespace Mine
theorem kStm_eq : kStm = .ClassDef kName kBases [] kBody [] [] kScope none kBind kStat kPos := by kernel_rfl
theorem kBases_eq : kBases = [.Name (Str.ofString "object") (match kBases with | [.Name _ p] => p | _ => default)] := by kernel_rfl
theorem evalArgs_two {M : Model} {A : Around} {E : Value → Shared → Prop} {s : Shared} {f : Value} {xs : List (Bool × Sem Value)} {Q : Args → Shared → Prop} (h : wpAny M A (spliced xs) (fun vs s₁ => Q ⟨vs, []⟩ s₁) E s) : wpAny M A (evalArgs f false xs []) Q E s := by
  unfold evalArgs
  show wpAny M A (spliced xs >>= _) Q E s
  refine wpAny_bind (wpAny_mono h (fun vs s₁ h₁ => ?_) fun _ _ x => x)
  refine wpAny_bind (wpAny_pure ?_)
  refine wpAny_holding ?_
  refine wpAny_bind (wpAny_pure ?_)
  refine wpAny_bind (wpAny_pure ?_)
  exact wpAny_pure h₁
section
variable {w : World} {A : Around} {E : Value → Shared → Prop} {s : Shared}
theorem class_stmt {env : Env} {Q : Flow → Shared → Prop} (X : Gl w s.heap) (hb : env.builtins = builtinsNs) (hg : env.globals = mainGlobals) (hk : env.scope.kind = .function) (ho : env.kindOf (Str.ofString "object") = some .globalImplicit)
    (h : wpAny (model prg w) A (buildClass kName (qualnameIn env kName kBind) [.type "object"] [] kBody kScope kStat (firstLineOf [] kPos) env kPos none) (fun c s' => wpAny (model prg w) A (storeName env kBind c) (fun _ s'' => Q .next s'') E s') E s) :
    wpAny (model prg w) A (exec kStm env) Q E s := by
  rw [kStm_eq, arm_exec_ClassDef]
  refine wpAny_bind (wpAny_pure ?_)
  refine wpAny_bind (wpAny_standAt ?_)
  refine wpAny_bind ?_
  · unfold buildClassGuard
    obtain ⟨mb, z, zz⟩ := X.b
    refine wpAny_bind (wpAny_nsGet (hb ▸ z) ?_)
    rw [zz _ (by decide), show bootBuiltins "__build_class__" = some (.builtin "__build_class__") from by kernel_rfl]
    refine wpAny_pure ?_
    refine wpAny_bind ?_
    refine wpAny_holding ?_
    refine wpAny_bind ?_
    rw [show backTo kPos (starEach kBases env) = [(false, eval (.Name (Str.ofString "object") (match kBases with | [.Name _ p] => p | _ => default)) env)] from by rw [kBases_eq]; rfl]
    refine evalArgs_two (spliced_cons ?_)
    refine bname (v := .type "object") X (by kernel_rfl) (by kernel_rfl) (by decide) hk ho hg hb ?_
    refine spliced_nil ?_
    refine wpAny_bind (wpAny_standAt ?_)
    refine wpAny_holding ?_
    refine wpAny_mono h (fun c s' h' => ?_) fun _ _ x => x
    refine wpAny_bind (wpAny_pure ?_)
    refine wpAny_bind (wpAny_standAt ?_)
    refine wpAny_bind (bindName_ ?_)
    exact wpAny_mono h' (fun _ s'' h'' => wpAny_pure h'') fun _ _ x => x
end
end Mine
end

section
open PySem PySem.W PySem.W.X PySem.Calls PyProof.Rows
set_option maxRecDepth 100000
set_option linter.unusedVariables false
namespace Mine
noncomputable def kRet : Stmt := (bodyAt 1).getD 1 (.Pass default)
theorem b1_eq : bodyAt 1 = [kStm, kRet] := by kernel_rfl
noncomputable def qK (i : Nat) : Str := Str.ofString "cmp_to_key.<locals>.K." ++ kNm i
noncomputable def IsCod (h : Heap) (a : Addr) (nm : Str) (line : Int) : Prop := ∃ (t0 t1 t2 t3 t4 : Tok) (k1 k2 k3 k4 k5 : Addr), h.get? a = some (codM nm line t0 t1 t2 t3 t4 k1 k2 k3 k4 k5)
theorem IsCod.at {h h' : Heap} {a : Addr} {nm : Str} {line : Int} (x : IsCod h a nm line) (k : ∀ o, h.get? a = some o → h'.get? a = some o) : IsCod h' a nm line :=
  let ⟨t0, t1, t2, t3, t4, k1, k2, k3, k4, k5, e⟩ := x; ⟨t0, t1, t2, t3, t4, k1, k2, k3, k4, k5, k _ e⟩
theorem IsCod.rec {h : Heap} {a : Addr} {nm : Str} {line : Int} (x : IsCod h a nm line) : h.CodeRec (.ref a) (Str.ofString "cmp_to_key.<locals>.K." ++ nm) :=
  let ⟨_, _, _, _, _, _, _, _, _, _, e⟩ := x; ⟨a, _, _, _, rfl, e, rfl, rfl⟩
/-- the table of `cmp_to_key`'s code, none of it in a bad place -/
noncomputable def T16 (Bad : Addr → Prop) (h : Heap) : Prop := h.get? 16 = some (tabObj #[]) ∨ ∃ (k p tu : Addr) (t0 t1 t2 t3 t4 : Tok) (cc : Nat → Addr), h.get? 16 = some (tabObj #[.int 4 0, .int 4 0, .ref k]) ∧ h.get? k = some (codK t0 t1 t2 t3 t4 tu p) ∧ h.get? p = some (tabK cc) ∧ p ≠ 16 ∧
  IsCod h (cc 0) (kNm 0) 8 ∧ IsCod h (cc 1) (kNm 1) 11 ∧ ∀ a ∈ [k, p, cc 0, cc 1], ¬ Bad a
/-- a class K, as `cmp_to_key(_law_compared)` makes it, none of it in a bad place -/
noncomputable def ClsOk (w : World) (Bad : Addr → Prop) (h : Heap) (c : Addr) : Prop := ∃ (t : Nat → Tok) (bT ns sl sa md cell : Addr) (f : Nat → Addr) (x y z v q : Tok) (c0 c1 ct1 : Addr), h.get? c = some (clO c ns bT v q) ∧ h.get? ns = some (nsF w.params t sl sa md f x y) ∧ h.get? md = some (mdO c z) ∧
  h.get? (f 0) = some (fnO (kfn 0 (kNm 0) [] (.ref c0) .none)) ∧ h.get? (f 1) = some (fnO (kfn 1 (kNm 1) [(Str.ofString "mycmp", cell)] (.ref c1) (.ref ct1))) ∧ h.IsCell cell (some (.ref 125)) ∧ IsCod h c0 (kNm 0) 8 ∧ IsCod h c1 (kNm 1) 11 ∧
  ∀ a ∈ [c, ns, md, f 0, f 1, cell, c0, c1], ¬ Bad a
theorem T16.tab {Bad : Addr → Prop} {h : Heap} (x : T16 Bad h) : ∃ ps, h.get? 16 = some (tabObj ps) := by
  rcases x with x | ⟨k, p, tu, t0, t1, t2, t3, t4, cc, x, _⟩
  · exact ⟨_, x⟩
  · exact ⟨_, x⟩
theorem tab_ne {h : Heap} {ps : Array Value} (x : h.get? 16 = some (tabObj ps)) {b : Addr} {o : Obj} (e : h.get? b = some o) (hc : o.cls ≠ .none) : b ≠ 16 := by
  rintro rfl
  rw [e] at x; cases x; exact hc rfl
theorem cod_ne {h : Heap} {ps : Array Value} (x : h.get? 16 = some (tabObj ps)) {b : Addr} {nm : Str} {l : Int} (e : IsCod h b nm l) : b ≠ 16 := by
  obtain ⟨_, _, _, _, _, _, _, _, _, _, e⟩ := e
  exact tab_ne x e (show Value.type "code" ≠ .none by decide)
theorem cell_ne {h : Heap} {ps : Array Value} (x : h.get? 16 = some (tabObj ps)) {b : Addr} {v : Option Value} (e : h.IsCell b v) : b ≠ 16 := by
  rintro rfl
  obtain ⟨o, e', d⟩ := e
  rw [x] at e'; cases e'; cases d
theorem T16.ag {Bad : Addr → Prop} {h h' : Heap} (x : T16 Bad h) (h16 : ¬ Bad 16) (u : ∀ b o, ¬ Bad b → h.get? b = some o → h'.get? b = some o) : T16 Bad h' := by
  rcases x with x | ⟨k, p, tu, t0, t1, t2, t3, t4, cc, x, e1, e2, e3, r0, r1, nb⟩
  · exact .inl (u _ _ h16 x)
  · exact .inr ⟨k, p, tu, t0, t1, t2, t3, t4, cc, u _ _ h16 x, u _ _ (nb _ (by simp)) e1, u _ _ (nb _ (by simp)) e2, e3, r0.at fun o e => u _ _ (nb _ (by simp)) e, r1.at fun o e => u _ _ (nb _ (by simp)) e, nb⟩
theorem ClsOk.ag {w : World} {Bad : Addr → Prop} {h h' : Heap} {c : Addr} {ps : Array Value} (x : ClsOk w Bad h c) (t16 : h.get? 16 = some (tabObj ps)) (k : ∀ b o, ¬ Bad b → b ≠ 16 → h.get? b = some o → h'.get? b = some o) : ClsOk w Bad h' c := by
  obtain ⟨t, bT, ns, sl, sa, md, cell, f, x, y, z, v, q, c0, c1, ct1, e1, e2, e3, e4, e5, e6, e7, e8, nb⟩ := x
  have g : ∀ a ∈ [c, ns, md, f 0, f 1, cell, c0, c1], a ≠ 16 → ∀ o, h.get? a = some o → h'.get? a = some o := fun a ha hn o e => k _ _ (nb a ha) hn e
  exact ⟨t, bT, ns, sl, sa, md, cell, f, x, y, z, v, q, c0, c1, ct1, g _ (by simp) (tab_ne t16 e1 (show Value.type "type" ≠ .none by decide)) _ e1, g _ (by simp) (tab_ne t16 e2 (show Value.type "dict" ≠ .none by decide)) _ e2, g _ (by simp) (tab_ne t16 e3 (show Value.type "member_descriptor" ≠ .none by decide)) _ e3,
    g _ (by simp) (tab_ne t16 e4 (show Value.type "function" ≠ .none by decide)) _ e4, g _ (by simp) (tab_ne t16 e5 (show Value.type "function" ≠ .none by decide)) _ e5, cell_at e6 fun o e => g _ (by simp) (cell_ne t16 e6) _ e, e7.at fun o e => g _ (by simp) (cod_ne t16 e7) _ e, e8.at fun o e => g _ (by simp) (cod_ne t16 e8) _ e, nb⟩
theorem Mm.k16 {h₀ h : Heap} {K own : Ob} (D : Mm [16] h₀ h K own) : ∀ b o, b ≠ 16 → h₀.get? b = some o → h.get? b = some o := fun b o hb e => D.keep b o e fun q hq hqb => by
  rcases D.fr q hq with h | h
  · simp only [List.mem_cons, List.not_mem_nil, or_false] at h
    exact hb (hqb ▸ h)
  · rw [hqb, e] at h; cases h
theorem bcK_D {w : World} {h : Heap} {ps : Array Value} {L : Ob} (X : Gl w h) (h16 : h.get? 16 = some (tabObj ps)) (hL : ∀ p ∈ L, h.get? p.1 = some p.2 ∧ p.1 ≠ 16) : ∃ sl, Mm [16] h h (bcK w.params sl ++ L) [(16, tabObj ps)] := by
  obtain ⟨ob, e4, c4, d4, dt4⟩ := X.bm
  obtain ⟨oc, od, odt, sl⟩ := ob
  dsimp only at c4 d4 dt4
  subst c4 d4 dt4
  refine ⟨sl, fun p hp => ?_, by simp, fun p hp => ?_, fun b o e hb => e, fun q hq => .inl ?_⟩
  · simp only [List.mem_cons, List.not_mem_nil, or_false] at hp
    subst hp; exact h16
  · rcases List.mem_append.mp hp with hp | hp
    · simp only [bcK, List.mem_cons, List.not_mem_nil, or_false] at hp
      constructor
      · rcases hp with rfl | rfl | rfl | rfl
        · exact X.k 20 _ rfl
        · exact X.k 3 _ rfl
        · exact e4
        · exact X.k 2 _ rfl
      · intro q hq
        simp only [List.mem_cons, List.not_mem_nil, or_false] at hq
        subst hq
        rcases hp with rfl | rfl | rfl | rfl <;> simp
    · refine ⟨(hL p hp).1, fun q hq => ?_⟩
      simp only [List.mem_cons, List.not_mem_nil, or_false] at hq
      subst hq
      exact (hL p hp).2.symm
  · simp only [List.mem_cons, List.not_mem_nil, or_false] at hq
    subst hq; simp
end Mine
end

section
open PySem PySem.W PySem.W.X PySem.Calls PyProof.Rows
set_option maxRecDepth 100000
set_option linter.unusedVariables false
namespace Mine
theorem Mm.frame {h h₁ h' h2 : Heap} {K own : Ob} {L : Addr} {oL o16 : Obj} (D : Mm [16] h₁ h' K own) (u : Up h h₁) (hL : h₁.get? L = some oL) (hLn : h.get? L = .none) (h16 : h.get? 16 = some o16) (k2 : ∀ b o, b ≠ L → h'.get? b = some o → h2.get? b = some o) : Mm [16] h h2 [] own := by
  have ne : ∀ q ∈ own, q.1 ≠ L := fun q hq e => by
    rcases D.fr q hq with z | z
    · simp only [List.mem_cons, List.not_mem_nil, or_false] at z
      rw [z] at e
      rw [← e, h16] at hLn; cases hLn
    · rw [e, hL] at z; cases z
  refine ⟨fun q hq => k2 _ _ (ne q hq) (D.ow q hq), D.nd, fun p hp => (nomatch hp), fun b o e hb => k2 _ _ ?_ (D.keep b o (u _ _ e) hb), fun q hq => ?_⟩
  · rintro rfl
    rw [e] at hLn; cases hLn
  · rcases D.fr q hq with z | z
    · exact .inl z
    · right
      cases e : h.get? q.1 with
      | none => rfl
      | some o => rw [u _ _ e] at z; cases z
section
variable {w : World} {A : Around} {E : Value → Shared → Prop} {s : Shared}
theorem ck_end {m : Str → Option Value} {env : Env} {Q : Value → Shared → Prop} {s₂ : Shared} {c : Addr} (hk : env.scope.kind = .function) (hl : env.kindOf kBind = some .local) (hn : s₂.heap.Ns env.locals m)
    (hQ : ∀ h' tk, Heap.SameBut env.locals s₂.heap h' → Q (.ref c) { s₂ with heap := h', toks := tk }) :
    wpAny (model prg w) A (storeName env kBind (.ref c)) (fun _ s'' => wpAny (model prg w) A (execs [kRet] env) (fun f s' => Q (match f with | .ret v => v | _ => .none) s') (fun _ _ => False) s'') (fun _ _ => False) s₂ := by
  refine wpAny_storeName_local hl hn (fun h' hn' hs' => ?_) (by rw [hk]; rfl)
  refine wpAny_execs_cons ?_
  rw [show kRet = .Return (some (.Name kBind (match kRet with | .Return (some (.Name _ p)) _ => p | _ => default))) (match kRet with | .Return _ p => p | _ => default) from by kernel_rfl]
  refine wpAny_Return_some (wpAny_Name (wpAny_loadName_local hk hl hn' (v := .ref c) (by simp) ?_) (by kernel_rfl))
  exact hQ _ _ hs'
set_option maxHeartbeats 1000000 in
/-- `cmp_to_key(_law_compared)` -/
theorem ck_spec {Bad : Addr → Prop} {Q : Value → Shared → Prop} (hA : Ar 84 A) (X : Gl w s.heap) (hB : ∀ b, Bad b → ∃ o, s.heap.get? b = some o) (h16 : ¬ Bad 16) (t16 : T16 Bad s.heap) (hQ : ∀ c s', Ch 16 s s' → T16 Bad s'.heap → ClsOk w Bad s'.heap c → Q (.ref c) s') : wpAny (model prg w) A (PySem.call (.ref 21) [.ref 125]) Q E s := by
  refine enter (fd := ckF w.params) (body := bodyAt 1) hA X rfl rfl rfl rfl rfl rfl rfl rfl rfl (fun s₁ y₁ => ?_)
  obtain ⟨h₁, tk₁, rfl, u⟩ := y₁.done
  have X₁ : Gl w h₁ := X.keeps u
  have c₁ : h₁.IsCell (s.heap.objs.size + 1) (some (.ref 125)) := y₁.cell (Str.ofString "mycmp") _ rfl
  have n₁ := y₁.toInCall.ns
  rw [b1_eq]
  refine wpAny_execs_cons ?_
  refine class_stmt X₁ rfl rfl rfl (by kernel_rfl) ?_
  have hA' : Aok 80 300 (A.deeper (callEnvC (ckF w.params) s.heap.objs.size 21)) := ⟨hA.hh, by have := hA.hd; show A.depth + 1 + 80 ≤ 900; omega, by have := hA.hu; show A.units + 3 + 300 ≤ 9000; omega⟩
  obtain ⟨oL, eL⟩ : ∃ o, h₁.get? s.heap.objs.size = some o := let ⟨o, _, _, e, _⟩ := n₁; ⟨o, e⟩
  have hLn : s.heap.get? s.heap.objs.size = none := none_size _ (Nat.le_refl _)
  have hnb : ∀ a, s.heap.get? a = none → ¬ Bad a := fun a e b => by obtain ⟨o, e'⟩ := hB a b; rw [e] at e'; cases e'
  have hown : ∀ {h : Heap} {own : Ob}, Mm [16] s.heap h [] own → ∀ q ∈ own, ¬ Bad q.1 := fun D q hq => by
    rcases D.fr q hq with e | e
    · simp only [List.mem_cons, List.not_mem_nil, or_false] at e
      rw [e]; exact h16
    · exact hnb _ e
  have hcn : ¬ Bad (s.heap.objs.size + 1) := hnb _ (none_size _ (Nat.le_succ _))
  obtain ⟨ps16, e16⟩ := t16.tab
  have ne16 : s.heap.objs.size ≠ 16 := by rintro e; rw [e, e16] at hLn; cases hLn
  have keyN : ∀ {h' : Heap} {K own : Ob}, Mm [16] h₁ h' K own → h'.Ns s.heap.objs.size _ := fun D => ns_at n₁ fun o e => D.k16 _ _ ne16 e
  have keyC : ∀ {h' h2 : Heap} {K own : Ob}, Mm [16] h₁ h' K own → Heap.SameBut s.heap.objs.size h' h2 → h2.IsCell (s.heap.objs.size + 1) (some (.ref 125)) := fun D hs =>
    cell_at c₁ fun o e => (hs.2 _ (Nat.succ_ne_self _)).trans (D.k16 _ _ (cell_ne (u _ _ e16) c₁) e)
  rcases t16 with e | ⟨k, p, tu, t0, t1, t2, t3, t4, cc, e, ek, ep, hp, r0, r1, nb⟩
  · obtain ⟨sl, D⟩ := bcK_D (L := []) X₁ (u _ _ e) (fun p hp => (nomatch hp))
    rw [List.append_nil] at D
    refine bc_miss (L := s.heap.objs.size) hA' D fun n tk c ns md x y z h' t' D => ?_
    refine ck_end rfl (by kernel_rfl) (keyN D) fun h2 tk2 hs => ?_
    have D2 := D.frame u eL hLn e fun b o hb e => (hs.2 b hb).trans e
    have bad : ∀ (i : Nat) {q : Addr × Obj}, (((16, tabObj #[.int 4 0, .int 4 0, .ref (n + 5)]) :: mOwn w.params n tk s.heap.objs.size) ++ [(ns, nsF w.params (pk [8, 13, 10, 9, 12, 11, 16, 24, 33, 42, 51, 60, 69, 70, 72] tk) (n + 7) (n + 55) md (pk [14, 22, 30, 38, 46, 54] n) x y), (c, clO c ns (n + 0) (tk + 0) (tk + 9)), (md, mdO c z)])[i]? = some q → ¬ Bad q.1 :=
      fun i q e => hown D2 q (List.mem_of_getElem? e)
    have g13 : IsCod h2 (n + 13) (kNm 0) 8 := ⟨_, _, _, _, _, _, _, _, _, _, D2.at 13 rfl⟩
    have g14 : IsCod h2 (n + 21) (kNm 1) 11 := ⟨_, _, _, _, _, _, _, _, _, _, D2.at 14 rfl⟩
    have b13 : ¬ Bad (n + 13) := bad 13 rfl
    have b14 : ¬ Bad (n + 21) := bad 14 rfl
    refine hQ c _ ⟨h2, tk2, rfl, D2.k16⟩ ?_ ?_
    · have e5 : h2.get? (n + 5) = _ := D2.at 12 rfl
      have e4 : h2.get? (n + 4) = _ := D2.at 11 rfl
      have e0 : h2.get? 16 = _ := D2.at 0 rfl
      have b5 : ¬ Bad (n + 5) := bad 12 rfl
      have b4 : ¬ Bad (n + 4) := bad 11 rfl
      refine .inr ⟨n + 5, n + 4, n + 3, tk + 2, tk + 3, tk + 4, tk + 6, tk + 7, pk [13, 21, 29, 37, 45, 53] n, e0, e5, e4, (by intro q; rw [q, e0] at e4; cases e4), g13, g14, fun a ha => ?_⟩
      simp only [List.mem_cons, List.not_mem_nil, or_false] at ha
      rcases ha with rfl | rfl | rfl | rfl
      · exact b5
      · exact b4
      · exact b13
      · exact b14
    · refine ⟨pk [8, 13, 10, 9, 12, 11, 16, 24, 33, 42, 51, 60, 69, 70, 72] tk, n + 0, ns, n + 7, n + 55, md, s.heap.objs.size + 1, pk [14, 22, 30, 38, 46, 54] n, x, y, z, tk + 0, tk + 9, n + 13, n + 21, n + 15, D2.at 16 rfl, D2.at 15 rfl, D2.at 17 rfl, D2.at 4 rfl, D2.at 5 rfl, keyC D hs, g13, g14, fun a ha => ?_⟩
      simp only [List.mem_cons, List.not_mem_nil, or_false] at ha
      rcases ha with rfl | rfl | rfl | rfl | rfl | rfl | rfl | rfl
      · exact bad 16 rfl
      · exact bad 15 rfl
      · exact bad 17 rfl
      · exact bad 4 rfl
      · exact bad 5 rfl
      · exact hcn
      · exact b13
      · exact b14
  · have hk : k ≠ 16 := by rintro rfl; rw [e] at ek; cases ek
    obtain ⟨sl, D⟩ := bcK_D (L := [(k, codK t0 t1 t2 t3 t4 tu p), (p, tabK cc)]) X₁ (u _ _ e) (fun q hq => by
      simp only [List.mem_cons, List.not_mem_nil, or_false] at hq
      rcases hq with rfl | rfl
      · exact ⟨u _ _ ek, hk⟩
      · exact ⟨u _ _ ep, hp⟩)
    refine bc_hit (L := s.heap.objs.size) hA' D fun n tk c ns md x y z h' t' D => ?_
    refine ck_end rfl (by kernel_rfl) (keyN D) fun h2 tk2 hs => ?_
    have D2 := D.frame u eL hLn e fun b o hb e => (hs.2 b hb).trans e
    have bad : ∀ (i : Nat) {q : Addr × Obj}, (((16, tabObj #[.int 4 0, .int 4 0, .ref k]) :: hOwn w.params n tk s.heap.objs.size cc) ++ [(ns, nsF w.params (pk [2, 7, 4, 3, 6, 5, 10, 11, 12, 13, 14, 15, 16, 17, 19] tk) (n + 4) (n + 16) md (pk [5, 7, 9, 11, 13, 15] n) x y), (c, clO c ns (n + 0) (tk + 0) (tk + 3)), (md, mdO c z)])[i]? = some q → ¬ Bad q.1 :=
      fun i q e => hown D2 q (List.mem_of_getElem? e)
    have r0' : IsCod h2 (cc 0) (kNm 0) 8 := r0.at fun o e' => D2.k16 _ _ (cod_ne e r0) e'
    have r1' : IsCod h2 (cc 1) (kNm 1) 11 := r1.at fun o e' => D2.k16 _ _ (cod_ne e r1) e'
    refine hQ c _ ⟨h2, tk2, rfl, D2.k16⟩ ?_ ?_
    · exact .inr ⟨k, p, tu, t0, t1, t2, t3, t4, cc, D2.at 0 rfl, D2.k16 _ _ hk ek, D2.k16 _ _ hp ep, hp, r0', r1', nb⟩
    · refine ⟨pk [2, 7, 4, 3, 6, 5, 10, 11, 12, 13, 14, 15, 16, 17, 19] tk, n + 0, ns, n + 4, n + 16, md, s.heap.objs.size + 1, pk [5, 7, 9, 11, 13, 15] n, x, y, z, tk + 0, tk + 3, cc 0, cc 1, n + 6, D2.at 12 rfl, D2.at 11 rfl, D2.at 13 rfl, D2.at 4 rfl, D2.at 5 rfl, keyC D hs, r0', r1', fun a ha => ?_⟩
      simp only [List.mem_cons, List.not_mem_nil, or_false] at ha
      rcases ha with rfl | rfl | rfl | rfl | rfl | rfl | rfl | rfl
      · exact bad 12 rfl
      · exact bad 11 rfl
      · exact bad 13 rfl
      · exact bad 4 rfl
      · exact bad 5 rfl
      · exact hcn
      · exact nb _ (by simp)
      · exact nb _ (by simp)
end
end Mine
end

section
open PySem PySem.W PySem.W.X PySem.Calls PyProof.Rows
set_option maxRecDepth 100000
set_option linter.unusedVariables false
namespace Mine
noncomputable def inO (c row dd : Addr) : Obj := ⟨.ref c, some dd, .plain, #[some (.ref row)]⟩
/-- the function `__init__` of the class -/
noncomputable def iniF (cv : Value) : FuncData := ⟨Str.ofString "__init__", Str.ofString "cmp_to_key.<locals>.K.__init__", ⟨[], [⟨Str.ofString "self", none, ⟨8, 21, 8, 25⟩⟩, ⟨Str.ofString "obj", none, ⟨8, 27, 8, 30⟩⟩], none, [], [], none, []⟩,
  .stmts [.Assign [.Attribute (.Name (Str.ofString "self") ⟨9, 12, 9, 16⟩) (Str.ofString "obj") ⟨9, 12, 9, 20⟩] (.Name (Str.ofString "obj") ⟨9, 23, 9, 26⟩) ⟨9, 12, 9, 26⟩],
  ⟨.function, [(Str.ofString "self", .local), (Str.ofString "obj", .local)], false, false, []⟩, 3, [], .none, .none, .none, .str (Str.ofString "law_pe0222_01") 2239, none, cv, .none, 0⟩
theorem iniF_eq (cv : Value) : kfn 0 (kNm 0) [] cv .none = iniF cv := by kernel_rfl
section
variable {pr : Program} {w : World} {E : Value → Shared → Prop} {s : Shared} {Q : Value → Shared → Prop} {t : Nat → Tok} {bT ns sl sa md c0 row c : Addr} {f0 f1 f2 f3 f4 f5 : Addr} {x y z v q : Tok} {t0 t1 t2 t3 t4 : Tok} {k1 k2 k3 k4 k5 : Addr}
set_option hygiene false in
local macro_rules | `(tactic| x_close) => `(tactic| (rename X.Mem _ _ _ _ => hD; exact hQ _ _ _ _ _ _ _ (Nw.of hD)))
set_option maxHeartbeats 0 in
theorem inst_x (e0 : s.heap.get? (nat_lit 2) = some ⟨.none, none, .dict #[] 0, #[]⟩) (e1 : s.heap.get? c = some (clO c ns bT v q)) (e2 : s.heap.get? ns = some (nsF w.params t sl sa md (fun i => [f0, f1, f2, f3, f4, f5].getD i 0) x y)) (e3 : s.heap.get? md = some (mdO c z))
    (e4 : s.heap.get? f0 = some (fnO (iniF (.ref c0)))) (e5 : s.heap.get? c0 = some (codM (kNm 0) 8 t0 t1 t2 t3 t4 k1 k2 k3 k4 k5))
    (hQ : ∀ F D dd h' tk o l, Nw s.heap h' ((F, o) :: (D, inO c row dd) :: l) → Q (.ref D) ⟨h', s.gens, s.drawn, tk, s.os⟩) :
    wpAny (model pr w) Ac (PySem.call (.ref c) [.ref row]) Q E s := by
  delta clO at e1
  delta nsF at e2
  delta mdO at e3
  delta fnO iniF at e4
  delta codM at e5
  x_run
theorem inst_spec {A : Around} {Bad : Addr → Prop} (hA : Ar 1 A) (X : Gl w s.heap) (C : ClsOk w Bad s.heap c)
    (hQ : ∀ i dd s', Keeps s s' → s.heap.get? i = none → s'.heap.get? i = some (inO c row dd) → Q (.ref i) s') : wpAny (model prg w) A (PySem.call (.ref c) [.ref row]) Q E s := by
  obtain ⟨t, bT, ns, sl, sa, md, cell, f, x, y, z, v, q, c0, c1, ct1, e1, e2, e3, e4, e5, e6, e7, e8, nb⟩ := C
  obtain ⟨t0, t1, t2, t3, t4, k1, k2, k3, k4, k5, e7⟩ := e7
  refine wp_conc ⟨hA.hh, by have := hA.hd; omega, by have := hA.hu; omega⟩ ?_
  refine inst_x (f0 := f 0) (f1 := f 1) (f2 := f 2) (f3 := f 3) (f4 := f 4) (f5 := f 5) (X.k 2 _ rfl) e1 e2 e3 (iniF_eq _ ▸ e4) e7 fun F D dd h' tk o l N => ?_
  obtain ⟨g1, g2⟩ := N.nw _ (.tail _ (.head _))
  exact hQ D dd _ ⟨h', tk, rfl, N.keep⟩ g2 g1
end
end Mine
end

section
open PySem PySem.W PySem.W.X PySem.Calls PyProof.Rows
set_option maxRecDepth 100000
set_option linter.unusedVariables false
namespace Mine
section
variable {pr : Program} {w : World} {E : Value → Shared → Prop} {s : Shared} {t : Nat → Tok} {bT ns sl sa md row c i dd : Addr} {f0 f1 f2 f3 f4 f5 : Addr} {x y z v q u : Tok}
section
variable {Q : Result → Shared → Prop}
set_option hygiene false in
local macro_rules | `(tactic| x_close) => `(tactic| (exact hQ _ _ (fun b o e => e)))
set_option maxHeartbeats 0 in
theorem hooked_x (ei : s.heap.get? i = some (inO c row dd)) (e1 : s.heap.get? c = some (clO c ns bT v q)) (e2 : s.heap.get? ns = some (nsF w.params t sl sa md (fun i => [f0, f1, f2, f3, f4, f5].getD i 0) x y)) (e3 : s.heap.get? md = some (mdO c z))
    (hQ : ∀ h' tk, Up s.heap h' → Q (.ok (.ret (.ref row))) ⟨h', s.gens, s.drawn, tk, s.os⟩) :
    wpAny (model pr w) Ac (Sem.call (.builtin "proto.getattr_hooked" ⟨[.ref i, .str (Str.ofString "obj") u], []⟩) none false [] Sem.pure) Q E s := by
  delta inO at ei
  delta clO at e1
  delta nsF at e2
  delta mdO at e3
  x_run
end
theorem getattr_K {A : Around} {Bad : Addr → Prop} {Q : Value → Shared → Prop} (hA : Ar 1 A) (X : Gl w s.heap) (ei : s.heap.get? i = some (inO c row dd)) (C : ClsOk w Bad s.heap c)
    (hQ : ∀ s', Keeps s s' → Q (.ref row) s') : wpAny (model prg w) A (getAttr (.ref i) (Str.ofString "obj") true) Q E s := by
  obtain ⟨t, bT, ns, sl, sa, md, cell, f, x, y, z, v, q, c0, c1, ct1, e1, e2, e3, e4, e5, e6, e7, e8, nb⟩ := C
  have hA' : Aok 0 0 A := ⟨hA.hh, by have := hA.hd; omega, by have := hA.hu; omega⟩
  rw [ZFast.ze4926136581373384958]
  have D : Mm [] s.heap s.heap [(i, inO c row dd), (c, clO c ns bT v q), (ns, nsF w.params t sl sa md f x y)] [] := nil_apart _ _ (by
    intro p hp
    simp only [List.mem_cons, List.not_mem_nil, or_false] at hp
    rcases hp with rfl | rfl | rfl
    · exact ei
    · exact e1
    · exact e2)
  refine Me.top ?_
  refine ez 300 [1000, 1001, 1001, 1002] rfl rfl D ?h1 ?h2 [] ?h3 fun h' tk D => ?_
  case h1 => kernel_rfl!
  case h2 => kernel_rfl!
  case h3 => kernel_rfl!
  refine cl_x (.builtin "proto.getattr_hooked" ⟨[.ref i, .str (Str.ofString "obj") s.toks], []⟩) 0 0 hA' ?h4 ?h5 ?_
  case h4 => kernel_rfl!
  case h5 => kernel_rfl!
  have u := D.up
  refine hooked_x (f0 := f 0) (f1 := f 1) (f2 := f 2) (f3 := f 3) (f4 := f 4) (f5 := f 5) (u _ _ ei) (u _ _ e1) (u _ _ e2) (u _ _ e3) fun h2 tk2 u2 => ?_
  have D2 : Mm [] s.heap h2 [(i, inO c row dd), (c, clO c ns bT v q), (ns, nsF w.params t sl sa md f x y)] [] := D.nw0 (news := []) ⟨u2, fun p hp => (nomatch hp)⟩
  refine ez 100 [] rfl rfl D2 ?h6 ?h7 [] ?h8 fun h3 tk3 D3 => ?_
  case h6 => kernel_rfl!
  case h7 => kernel_rfl!
  case h8 => kernel_rfl!
  refine Me.tops (.ref row) ?h9 ?_
  case h9 => kernel_rfl!
  exact hQ _ ⟨_, _, rfl, D3.up⟩
end
end Mine
end

section
open PySem PySem.W PySem.Calls PyProof.Rows
set_option maxRecDepth 100000
set_option linter.unusedVariables false
namespace Mine
noncomputable def IsK (c : Addr) (h : Heap) : Prop := ∃ ns bT v q, h.get? c = some (clO c ns bT v q)
theorem keeps_K {M : Model} {c : Addr} (h : Heap) (X : IsK c h) : ∃ k, (k = Keeper.frame ∨ k = Keeper.machine ∨ k = Keeper.boundFrame) ∧ Looks M h (keeperOf (.ref c)) k := by
  obtain ⟨ns, bT, v, q, e⟩ := X
  refine ⟨.machine, .inr (.inl rfl), (Looks.ld (part := none) e).andThen ?_⟩
  intro A Q E s k q'
  show wpAny M A (specialOf (.ref c) "__call__" >>= _) Q E s
  refine wpAny_bind (wpAny_specialOf (T := "type") ⟨_, k _ _ e, rfl⟩ tc_lookup ?_)
  rw [if_pos (by rfl)]
  exact wpAny_pure q'
theorem ClsOk.bad {w : World} {B B' : Addr → Prop} (hb : ∀ a, B a → B' a) {h : Heap} {c : Addr} (x : ClsOk w B' h c) : ClsOk w B h c := by
  unfold ClsOk at x ⊢
  refine x.imp fun t x => x.imp fun bT x => x.imp fun ns x => x.imp fun sl x => x.imp fun sa x => x.imp fun md x => x.imp fun cell x => x.imp fun f x => x.imp fun x1 x => x.imp fun y x => x.imp fun z x => x.imp fun v x => x.imp fun q x => x.imp fun c0 x => x.imp fun c1 x => x.imp fun ct1 x => ?_
  exact x.imp_right fun x => x.imp_right fun x => x.imp_right fun x => x.imp_right fun x => x.imp_right fun x => x.imp_right fun x => x.imp_right fun x => x.imp_right fun nb a ha h => nb a ha (hb a h)
theorem ClsOk.isK {w : World} {Bad : Addr → Prop} {h : Heap} {c : Addr} (x : ClsOk w Bad h c) : IsK c h := by
  obtain ⟨t, bT, ns, sl, sa, md, cell, f, x, y, z, v, q, c0, c1, ct1, e1, _⟩ := x
  exact ⟨_, _, _, _, e1⟩
noncomputable def kComp : PySem.Expr := match (bodyAt 15).getD 3 (.Pass default) with | .Assign _ e _ => e | _ => .Name "" default
noncomputable def kElt : PySem.Expr := match kComp with | .ListComp e _ _ _ => e | _ => .Name "" default
noncomputable def kSc : Scope := match kComp with | .ListComp _ _ s _ => s | _ => default
theorem kComp_eq : kComp = .ListComp kElt [⟨.Name (Str.ofString "row") (match kComp with | .ListComp _ [⟨.Name _ p, _, _, _⟩] _ _ => p | _ => default), .Name (Str.ofString "rows") (match kComp with | .ListComp _ [⟨_, .Name _ p, _, _⟩] _ _ => p | _ => default), [], 0⟩] kSc (match kComp with | .ListComp _ _ _ p => p | _ => default) := by kernel_rfl
/-- a key: an object of a class K that holds a row -/
noncomputable def KeyAt (w : World) (Bad : Addr → Prop) (h : Heap) (v : Value) (r : Addr) : Prop := ∃ i c dd, v = .ref i ∧ h.get? i = some (inO c r dd) ∧ ClsOk w Bad h c ∧ ¬ Bad i ∧ i ≠ 16
noncomputable def Own3 (lo a : Nat) : Prop := lo ≤ a ∧ a < lo + 3
theorem KeyAt.ag {w : World} {Bad : Addr → Prop} {h h' : Heap} {v : Value} {r : Addr} {ps : Array Value} (x : KeyAt w Bad h v r) (t16 : h.get? 16 = some (tabObj ps)) (k : ∀ b o, ¬ Bad b → b ≠ 16 → h.get? b = some o → h'.get? b = some o) : KeyAt w Bad h' v r := by
  obtain ⟨i, c, dd, e, g, C, nb, n16⟩ := x
  exact ⟨i, c, dd, e, k _ _ nb n16 g, C.ag t16 k, nb, n16⟩
theorem Gl.ch16 {w : World} {s s' : Shared} (X : Gl w s.heap) (c : Ch 16 s s') : Gl w s'.heap := X.kp fun b o e hb => c.up b o (fun q => hb (by rw [q]; decide)) e
theorem Ch.trans {a : Addr} {s s' s'' : Shared} (x : Ch a s s') (y : Ch a s' s'') : Ch a s s'' := by
  obtain ⟨h, t, rfl, k⟩ := x
  obtain ⟨h', t', rfl, k'⟩ := y
  exact ⟨h', t', rfl, fun b o hb e => k' b o hb (k b o hb e)⟩
theorem Ch.of_keeps {a : Addr} {s s' : Shared} (k : Keeps s s') : Ch a s s' := by obtain ⟨h, t, rfl, k⟩ := k; exact ⟨h, t, rfl, fun b o _ e => k b o e⟩
theorem own3_cases {lo b : Nat} (h : Own3 lo b) : b = lo ∨ b = lo + 1 ∨ b = lo + 2 := by obtain ⟨h1, h2⟩ := h; omega
section
variable {w : World} {A : Around} {E : Value → Shared → Prop} {s : Shared} {L : Addr} {m : Str → Option Value}
theorem callWith_C {c : Addr} {env : Env} {pos : Pos} {e : PySem.Expr} {rest : List PySem.Expr} {Q : Value → Shared → Prop} (h : wpAny (model prg w) A (spliced (backTo pos (starEach (e :: rest) env))) (fun vs s₁ => IsK c s₁.heap ∧ wpAny (model prg w) A (PySem.call (.ref c) vs) Q E s₁) E s)
    (he : starEach (e :: rest) env = (false, eval e env) :: starEach rest env := by rfl) (hplain : (backTo pos (starEach rest env)).any (·.1) = false := by rfl) :
    wpAny (model prg w) A (callWith pos (.ref c) [] (backTo pos (starEach (e :: rest) env)) []) Q E s := by
  rw [he] at h ⊢
  exact callWith_of (P := IsK c) (by show ((false || (backTo pos (starEach rest env)).any (·.1)) || false) = false; rw [hplain]; rfl) keeps_K (evalArgs_plain h)
theorem keys_comp {B0 : Addr → Prop} {R : Addr} {rs : List Value} {Q : Value → Shared → Prop} (hA : Ar 85 A) (X : Gl w s.heap) (hB0 : ∀ b, B0 b → ∃ o, s.heap.get? b = some o) (n0 : ¬ B0 16) (t16 : T16 B0 s.heap) (hn : s.heap.Ns L m) (eR : m "rows" = some (.ref R)) (hR : s.heap.IsList R rs.toArray) (hl : rs.length ≤ 1000)
    (hr : ∀ (i : Nat) (v : Value), rs[i]? = some v → ∃ a, v = .ref a)
    (hQ : ∀ D s' (ys : List Value), Ch 16 s s' → s'.heap.IsList D ys.toArray → ys.length = rs.length → T16 B0 s'.heap → (∀ (k : Nat) (r : Addr), rs[k]? = some (.ref r) → ∃ v, ys[k]? = some v ∧ KeyAt w B0 s'.heap v r) → Q (.ref D) s') :
    wpAny (model prg w) A (eval kComp (toldE L)) Q E s := by
  rw [kComp_eq]
  have h16o : ¬ Own3 s.heap.objs.size 16 := fun h => absurd (Nat.lt_of_lt_of_le (by decide : 16 < 143) X.size) (Nat.not_lt.mpr h.1)
  obtain ⟨BB, hBB⟩ : ∃ BB : Addr → Prop, BB = fun b => B0 b ∨ Own3 s.heap.objs.size b := ⟨_, rfl⟩
  have hb0 : ∀ b, BB b ↔ B0 b ∨ Own3 s.heap.objs.size b := fun b => by rw [hBB]
  have h16 : ¬ BB 16 := fun h => ((hb0 _).mp h).elim n0 h16o
  refine comp_inv (s₁ := s) (xv := .ref R) (n := rs.length) (fp := [R]) (P := fun i v => rs[i]? = some v) (cl := []) (fun i ys s' => Ch 16 s s' ∧ T16 BB s'.heap ∧ ys.length = i ∧ ∀ (k : Nat) (r : Addr), k < i → rs[k]? = some (.ref r) → ∃ v, ys[k]? = some v ∧ KeyAt w BB s'.heap v r) (by rfl) (by decide) (by rfl) (by decide) (by decide) hA.hh hl ?_ (iterF_list hR) ?_ ?_ ?_ ?_ ?_
  · intro Q' q
    exact wpAny_Name (wpAny_loadName_local rfl rfl hn eR q)
  · intro b hb
    simp only [List.mem_cons, List.not_mem_nil, or_false] at hb
    subst hb; exact isList_lt hR
  · intro s' k
    refine ⟨Ch.of_keeps k, ?_, rfl, fun k r hk => absurd hk (Nat.not_lt_zero _)⟩
    have old : ∀ {a : Addr}, ¬ B0 a → (∃ o, s.heap.get? a = some o) → ¬ BB a := fun nb ⟨o, e⟩ b => ((hb0 _).mp b).elim nb fun b => absurd (Heap.lt_size e) (Nat.not_lt.mpr b.1)
    have : T16 BB s.heap := by
      rcases t16 with e | ⟨k, p, tu, t0, t1, t2, t3, t4, cc, e, ek, ep, hp, r0, r1, nb⟩
      · exact .inl e
      · refine .inr ⟨k, p, tu, t0, t1, t2, t3, t4, cc, e, ek, ep, hp, r0, r1, fun a ha => ?_⟩
        simp only [List.mem_cons, List.not_mem_nil, or_false] at ha
        have nba := nb a
        rcases ha with rfl | rfl | rfl | rfl
        · exact old (nb _ (by simp)) ⟨_, ek⟩
        · exact old (nb _ (by simp)) ⟨_, ep⟩
        · obtain ⟨_, _, _, _, _, _, _, _, _, _, e⟩ := r0; exact old (nb _ (by simp)) ⟨_, e⟩
        · obtain ⟨_, _, _, _, _, _, _, _, _, _, e⟩ := r1; exact old (nb _ (by simp)) ⟨_, e⟩
    exact this.ag h16 fun b o _ e => kup k b o e
  · rintro i ys a s' s'' ⟨ch, t, hl, H⟩ h1 h2 na c
    have oa : Own3 s.heap.objs.size a := ⟨h1, h2⟩
    have kk : ∀ b o, ¬ BB b → s'.heap.get? b = some o → s''.heap.get? b = some o := fun b o nb e => c.up b o (fun q => nb ((hb0 _).mpr (.inr (q ▸ oa)))) e
    obtain ⟨ps, e16⟩ := t.tab
    refine ⟨?_, t.ag h16 kk, hl, fun k r hk e => ?_⟩
    · obtain ⟨h', tk, rfl, k1⟩ := ch
      obtain ⟨h'', tk', rfl, k2⟩ := c
      exact ⟨h'', tk', rfl, fun b o hb e => k2 b o (fun q => absurd (Heap.lt_size e) (Nat.not_lt.mpr (q ▸ h1))) (k1 b o hb e)⟩
    · obtain ⟨v, ev, K⟩ := H k r hk e
      exact ⟨v, ev, K.ag e16 fun b o nb _ e => kk b o nb e⟩
  · rintro i v ys s₃ m₃ Q' E' hi hp hl hsz hns hm il fi ⟨ch, t, _, H⟩ hk
    obtain ⟨r, rfl⟩ := hr i v hp
    have X₃ := X.ch16 ch
    obtain ⟨ps, e16⟩ := t.tab
    have hB : ∀ b, BB b → ∃ o, s₃.heap.get? b = some o := fun b hb => by
      rcases (hb0 _).mp hb with hb | hb
      · obtain ⟨o, e⟩ := hB0 b hb
        exact ⟨o, ch.up b o (fun q => n0 (q ▸ hb)) e⟩
      rcases own3_cases hb with rfl | rfl | rfl
      · obtain ⟨o, _, e, _⟩ := fi; exact ⟨o, e⟩
      · obtain ⟨o, e, _⟩ := il; exact ⟨o, e⟩
      · obtain ⟨o, _, _, e, _⟩ := hns; exact ⟨o, e⟩
    have n16 : ∀ b, BB b → b ≠ 16 := fun b hb q => h16 (q ▸ hb)
    refine Call_ (Call_ (gname (v := .ref 21) X₃ (by kernel_rfl) rfl rfl rfl ?_))
    refine callWith_K (K := K w.params) X₃.k (by kernel_rfl) ?_
    refine spliced_more (gname (v := .ref 125) X₃ (by kernel_rfl) rfl rfl rfl (spliced_none ⟨X₃.k, ?_⟩))
    refine ck_spec (Bad := BB) (hA.le (by decide)) X₃ hB h16 t fun c s₄ ch4 t4 C4 => ?_
    have X₄ := X₃.ch16 ch4
    have ns4 : s₄.heap.Ns (s.heap.objs.size + 2) m₃ := ns_at hns fun o e => ch4.up _ _ (n16 _ ((hb0 _).mpr (.inr ⟨Nat.le_add_right .., Nat.add_lt_add_left (by decide) _⟩))) e
    refine callWith_C (spliced_more (wpAny_Name (wpAny_loadName_local rfl rfl ns4 hm (spliced_none ⟨C4.isK, ?_⟩))))
    refine inst_spec (hA.le (by decide)) X₄ C4 fun ii dd s₅ k5 n5 g5 => ?_
    have hB4 : ∀ b, BB b → ∃ o, s₄.heap.get? b = some o := fun b hb => let ⟨o, e⟩ := hB b hb; ⟨o, ch4.up _ _ (n16 _ hb) e⟩
    obtain ⟨ps4, e164⟩ := t4.tab
    refine hk (.ref ii) s₅ ⟨(ch.trans ch4).trans (Ch.of_keeps k5), t4.ag h16 fun b o _ e => kup k5 b o e, by simp [hl], fun k r' hk' e => ?_⟩ fun b o hb e => ?_
    · rcases Nat.lt_succ_iff_lt_or_eq.mp hk' with hk' | rfl
      · obtain ⟨v, ev, K⟩ := H k r' hk' e
        refine ⟨v, by rw [List.getElem?_append_left (by omega)]; exact ev, ?_⟩
        exact K.ag e16 fun b o _ hb e => kup k5 b o (ch4.up b o hb e)
      · rw [hp] at e; cases e
        refine ⟨.ref ii, by rw [List.getElem?_append_right (by omega)]; simp [hl], ii, c, dd, rfl, g5, C4.ag e164 fun b o _ _ e => kup k5 b o e, fun hb => ?_, ?_⟩
        · obtain ⟨o, e⟩ := hB4 _ hb
          rw [n5] at e; cases e
        · rintro rfl
          rw [n5] at e164; cases e164
    · refine kup k5 _ _ (ch4.up _ _ ?_ e)
      rcases hb with hb | hb
      · simp only [List.mem_cons, List.not_mem_nil, or_false] at hb
        subst hb
        rintro rfl
        obtain ⟨o', e', _, n', d'⟩ := hR
        obtain ⟨ps0, e0⟩ := t16.tab
        rw [e0] at e'; cases e'; cases d'
      · exact n16 b ((hb0 _).mpr (.inr hb))
  · rintro s' ys il hl ⟨ch, t, _, H⟩
    refine hQ _ s' ys ch il hl ?_ fun k r e => ?_
    · rcases t with e | ⟨k, p, tu, t0, t1, t2, t3, t4, cc, e, ek, ep, hp, r0, r1, nb⟩
      · exact .inl e
      · exact .inr ⟨k, p, tu, t0, t1, t2, t3, t4, cc, e, ek, ep, hp, r0, r1, fun a ha h => nb a ha ((hb0 _).mpr (.inl h))⟩
    · obtain ⟨v, ev, i, c, dd, e1, e2, e3, e4, e5⟩ := H k r (List.getElem?_eq_some_iff.mp e).1 e
      exact ⟨v, ev, i, c, dd, e1, e2, ClsOk.bad (fun a h => (hb0 _).mpr (.inl h)) e3, fun h => e4 ((hb0 _).mpr (.inl h)), e5⟩
end
end Mine
end

section
open PySem PySem.W PySem.W.X PySem.Calls PyProof.Rows
set_option maxRecDepth 100000
set_option linter.unusedVariables false
namespace Mine
noncomputable def kLt : List Stmt := match kBody.getD 3 (.Pass default) with | .FunctionDef _ _ b _ _ _ _ _ _ _ => b | _ => []
noncomputable def kLtN : List (Str × NameKind) := match kBody.getD 3 (.Pass default) with | .FunctionDef _ _ _ _ _ _ s _ _ _ => s.names | _ => []
noncomputable def kLtF (cell c1 ct1 : Addr) : FuncData := kfn 1 (kNm 1) [(Str.ofString "mycmp", cell)] (.ref c1) (.ref ct1)
theorem ClsOk.up {w : World} {Bad : Addr → Prop} {h h' : Heap} {c : Addr} (x : ClsOk w Bad h c) (u : Up h h') : ClsOk w Bad h' c := by
  obtain ⟨t, bT, ns, sl, sa, md, cell, f, x, y, z, v, q, c0, c1, ct1, e1, e2, e3, e4, e5, e6, e7, e8, nb⟩ := x
  exact ⟨t, bT, ns, sl, sa, md, cell, f, x, y, z, v, q, c0, c1, ct1, u _ _ e1, u _ _ e2, u _ _ e3, u _ _ e4, u _ _ e5, e6.keeps u, e7.at fun o e => u _ _ e, e8.at fun o e => u _ _ e, nb⟩
theorem ns_keep {h h' : Heap} {a : Addr} {m : Str → Option Value} (x : h.Ns a m) (u : Up h h') : h'.Ns a m := ns_at x fun o e => u _ _ e
section
variable {w : World} {A : Around} {E : Value → Shared → Prop} {s : Shared} {Q : Value → Shared → Prop}
theorem lt_fn {Bad : Addr → Prop} {i j ri rj c c' d d' f1 cell c1 ct1 : Addr} {na nb : List Int} (hA : Ar 4 A) (X : TG w s.heap) (ei : s.heap.get? i = some (inO c ri d)) (ej : s.heap.get? j = some (inO c' rj d')) (C : ClsOk w Bad s.heap c) (C' : ClsOk w Bad s.heap c')
    (ef : s.heap.get? f1 = some (fnO (kLtF cell c1 ct1))) (ec : s.heap.IsCell cell (some (.ref 125))) (e1 : IsCod s.heap c1 (kNm 1) 11) (la : LInts s.heap ri na) (lb : LInts s.heap rj nb) (h5 : na.length = 5) (h5' : nb.length = 5)
    (hQ : ∀ s', KS s s' → Q (.bool (decide (cmpL na nb < 0))) s') : wpAny (model prg w) A (PySem.call (.ref f1) [.ref i, .ref j]) Q E s := by
  refine wpAny_call (codeAny_call_def (fd := kLtF cell c1 ct1) (body := kLt) (binds := [(Str.ofString "self", .ref i), (Str.ofString "other", .ref j)]) hA.room ef rfl X.1.lim e1.rec (by kernel_rfl) (BindsTo.of_eq (by kernel_rfl)) ?hcell ?hloc (fun h₀ hns hk => ?_) (by kernel_rfl) (by kernel_rfl) (by kernel_rfl))
  case hcell =>
    rw [show (kLtF cell c1 ct1).scope.names = kLtN from by kernel_rfl]
    decide
  case hloc =>
    rw [show (kLtF cell c1 ct1).scope.names = kLtN from by kernel_rfl]
    intro x hx
    simp only [List.mem_cons, List.not_mem_nil, or_false] at hx
    rcases hx with rfl | rfl
    · show kLtN.lookup (Str.ofString "self") = some .local
      decide
    · show kLtN.lookup (Str.ofString "other") = some .local
      decide
  have ks : Keeps s { s with heap := h₀, toks := s.toks + 2 } := ⟨_, _, rfl, hk⟩
  have X₁ := X.d (KS.of_keeps ks).d
  refine wpAny_mono (E := fun _ _ => False) (Q := fun f s' => Q (match f with | .ret v => v | _ => .none) s') ?_ (fun _ _ q => q) fun _ _ f => f.elim
  refine wpAny_execs_cons ?_
  refine wpAny_Return_some ?_
  refine wpAny_Compare1 ?_
  refine Call_ (wpAny_Name (wpAny_loadName_free (c := cell) (by kernel_rfl) (by kernel_rfl) (by kernel_rfl) (ec.keeps hk) ?_))
  refine callWith_K (K := K w.params) X₁.1.k (by kernel_rfl) ?_
  refine spliced_more ?_
  refine Attribute_name (wpAny_Name (wpAny_loadName_local (v := .ref i) (by kernel_rfl) (by kernel_rfl) hns (by kernel_rfl) ?_))
  refine getattr_K (hA.deeper _ |>.le (by decide)) X₁.1 (hk _ _ ei) (C.up hk) fun s₂ k₂ => ?_
  have u₂ : Up s.heap s₂.heap := fun b o e => kup k₂ b o (hk b o e)
  have X₂ := X₁.d (KS.of_keeps k₂).d
  refine spliced_more ?_
  have hn₂ := ns_keep hns (kup k₂)
  refine Attribute_name (wpAny_Name (wpAny_loadName_local (v := .ref j) (by kernel_rfl) (by kernel_rfl) hn₂ (by kernel_rfl) ?_))
  refine getattr_K (hA.deeper _ |>.le (by decide)) X₂.1 (u₂ _ _ ej) (C'.up u₂) fun s₃ k₃ => ?_
  have u₃ : Up s.heap s₃.heap := fun b o e => kup k₃ b o (u₂ b o e)
  have X₃ := X₂.d (KS.of_keeps k₃).d
  refine spliced_none ⟨X₃.1.k, ?_⟩
  refine compared_spec (hA.deeper _ |>.le (by decide)) X₃ (la.up u₃) (lb.up u₃) h5 h5' fun tt s₄ k₄ => ?_
  refine wpAny_Constant_int ?_
  refine lt_int ?_
  refine hQ _ ?_
  have k0 : KS s s₃ := (KS.of_keeps ks).trans ((KS.of_keeps k₂).trans (KS.of_keeps k₃))
  exact (k0.trans k₄).trans ⟨_, _, rfl, .refl _⟩
end
end Mine
end

section
open PySem PySem.W PySem.W.X PySem.Calls PyProof.Rows
set_option maxRecDepth 100000
set_option linter.unusedVariables false
namespace Mine
theorem clO_exc (c ns bT : Addr) (v q : Tok) : clO c ns bT v q = excClassObj (Str.ofString "K") (Str.ofString "cmp_to_key.<locals>.K") c ns [.type "object"] [.type "object"] false [Str.ofString "obj"] [] false none none (some (.ref bT)) none (some (.str (Str.ofString "K") v)) (some (.str (Str.ofString "cmp_to_key.<locals>.K") q)) (some (.bool false)) "object.__new__" := rfl
theorem obj_mro : mroOf (.type "object") = pure [.type "object"] := by kernel_rfl
theorem obj_lt : typeLookup (.type "object") "__lt__" = pure (some (.builtin "object.__lt__")) := by rw [typeLookup_type, builtinLookup_eq_fast]; kernel_rfl
theorem nsF_ns {h : Heap} {P : Params} {t : Nat → Tok} {ns sl sa md : Addr} {f : Nat → Addr} {x y : Tok} (e : h.get? ns = some (nsF P t sl sa md f x y)) : ∃ mN, h.Ns ns mN ∧ mN "__lt__" = some (.ref (f 1)) := by
  refine ⟨_, ⟨_, _, _, e, rfl, ?_, fun _ => rfl⟩, ?_⟩
  · intro e he
    simp only [List.mem_toArray, List.mem_cons, List.not_mem_nil, or_false] at he
    rcases he with rfl | rfl | rfl | rfl | rfl | rfl | rfl | rfl | rfl | rfl | rfl | rfl | rfl <;> exact ⟨_, _, rfl⟩
  · kernel_rfl
theorem special_lt {w : World} {Bad : Addr → Prop} {h : Heap} {i c r d : Addr} (ei : h.get? i = some (inO c r d)) (C : ClsOk w Bad h c) : ∃ f1 cell c1 ct1, h.OwnSpecial i c f1 "object" "__lt__" ∧ h.get? f1 = some (fnO (kLtF cell c1 ct1)) ∧ h.IsCell cell (some (.ref 125)) ∧ IsCod h c1 (kNm 1) 11 := by
  obtain ⟨t, bT, ns, sl, sa, md, cell, f, x, y, z, v, q, c0, c1, ct1, e1, e2, e3, e4, e5, e6, e7, e8, nb⟩ := C
  obtain ⟨mN, hn, hm⟩ := nsF_ns e2
  rw [clO_exc] at e1
  exact ⟨f 1, cell, c1, ct1, ⟨_, _, _, _, _, _, _, _, _, _, _, _, _, _, _, _, _, _, _, _, _, ei, rfl, e1, hn, hm, e5, rfl, obj_mro, obj_lt⟩, e5, e6, e8⟩
section
variable {w : World} {A : Around} {E : Value → Shared → Prop} {s : Shared}
theorem rich_lt {x y C D fA : Addr} {oy : Obj} {nm q : Str} {N : Addr} {bs : List Value} {hdct : Bool} {sn : List Str} {sub : List Value} {ab : Bool} {col : Option Bool} {dd : Option Addr} {k0 k1 k2 k3 k5 : Option Value} {newId : String} {Q : Value → Shared → Prop}
    (X : s.heap.OwnSpecial x C fA "object" "__lt__") (hy : s.heap.get? y = some oy) (hyc : oy.cls = .ref D) (hD : s.heap.get? D = some (excClassObj nm q D N bs [.type "object"] hdct sn sub ab col dd k0 k1 k2 k3 k5 newId)) (hu : A.units < cLine)
    (hcall : wpAny (model prg w) A (PySem.call (.ref fA) [.ref x, .ref y]) (fun v s' => ∃ b, v = .bool b ∧ Q (.bool b) s') E s) :
    wpAny (model prg w) A (richCompare .Lt (.ref x) (.ref y)) Q E s := by
  obtain ⟨h, g, d, t, os⟩ := s
  have X' := X
  obtain ⟨o, of, _, _, _, _, _, _, _, _, _, _, _, _, _, _, _, _, _, _, _, hx, hc, _⟩ := X'
  unfold richCompare
  simp only [oneThing_ref]
  refine wpAny_holding ?_
  refine wpAny_bind (wpAny_cRoomFor hu ?_)
  dsimp only [cmpInfo]
  refine wpAny_bind (wpAny_typeOf_ref hx ?_)
  rw [hc]
  refine wpAny_bind (wpAny_typeOf_ref hy ?_)
  rw [hyc]
  have tail : wpAny (model prg w) A (tryCompare (.ref x) "__lt__" (.ref y)) (fun r s' => ∃ b, r = some (.bool b) ∧ Q (.bool b) s') E ⟨h, g, d, t, os⟩ := by
    unfold tryCompare
    refine wpAny_bind (wpAny_callSpecialIfBound?_own X (wpAny_mono hcall (fun v s' hv => ?_) fun _ _ e => e))
    obtain ⟨b, rfl, hq⟩ := hv
    exact wpAny_pure ⟨b, rfl, hq⟩
  by_cases hCD : C = D
  · subst hCD
    rw [show (Value.ref C != Value.ref C) = false from by simp]
    simp only [Bool.false_eq_true, if_false]
    refine wpAny_bind (wpAny_pure ?_)
    simp only [Bool.false_eq_true, if_false]
    refine wpAny_bind (wpAny_mono tail (fun r s' hr => ?_) fun _ _ e => e)
    obtain ⟨b, rfl, hq⟩ := hr
    exact wpAny_pure hq
  · rw [if_pos (by simpa using hCD)]
    refine wpAny_bind (wpAny_isSubtype_exc hD ?_)
    rw [show (Value.ref D :: [Value.type "object"]).contains (Value.ref C) = false from by simp [hCD]]
    simp only [Bool.false_eq_true, if_false]
    refine wpAny_bind (wpAny_mono tail (fun r s' hr => ?_) fun _ _ e => e)
    obtain ⟨b, rfl, hq⟩ := hr
    exact wpAny_pure hq
/-- the sort's question of two keys -/
theorem keyLt_keys {Bad : Addr → Prop} {i j ri rj c c' d d' : Addr} {na nb : List Int} {κ : SortKind} {Q : Bool → Shared → Prop} (hκ : κ = oneType' ∨ κ = general') (hA : Ar 4 A) (X : TG w s.heap) (ei : s.heap.get? i = some (inO c ri d)) (ej : s.heap.get? j = some (inO c' rj d')) (C : ClsOk w Bad s.heap c) (C' : ClsOk w Bad s.heap c')
    (la : LInts s.heap ri na) (lb : LInts s.heap rj nb) (h5 : na.length = 5) (h5' : nb.length = 5) (hQ : ∀ s', KS s s' → Q (decide (cmpL na nb < 0)) s') : wpAny (model prg w) A (keyLt' κ (.ref i) (.ref j)) Q E s := by
  obtain ⟨f1, cell, c1, ct1, X1, ef, ec, e1⟩ := special_lt ei C
  have hu : A.units < cLine := Nat.lt_of_le_of_lt (Nat.le_add_right _ 64) hA.unit
  rcases hκ with rfl | rfl
  · rw [keyLt'_oneType, oneLt'_eq]
    simp only [if_true]
    refine wpAny_bind (wpAny_cRoomFor hu ?_)
    obtain ⟨h, g, dr, t, os⟩ := s
    refine wpAny_bind (wpAny_callSpecialIfBound?_own X1 ?_)
    refine lt_fn hA X ei ej C C' ef ec e1 la lb h5 h5' fun s' k => ?_
    exact wpAny_bind (wpAny_truthy_bool (wpAny_pure (hQ s' k)))
  · refine kat_one _ _ ?_
    have C2 := C'
    obtain ⟨t, bT, ns, sl, sa, md, cell, f, x, y, z, v, q, c0, c1, ct1, g1, _⟩ := C2
    rw [clO_exc] at g1
    refine rich_lt X1 ej rfl g1 hu ?_
    exact lt_fn hA X ei ej C C' ef ec e1 la lb h5 h5' fun s' k => ⟨_, rfl, hQ s' k⟩
end
end Mine
end

section
open PySem PySem.W PySem.Calls PyProof.Rows
set_option maxRecDepth 100000
set_option linter.unusedVariables false
namespace Mine
noncomputable def upto (n : Nat) : List Int := (List.range n).map fun (i : Nat) => (i : Int)
theorem ints_upto {acc : Array Value} {n : Nat} (h : ItemsOf (fun i v => ∃ t, v = .int (0 + (i : Int) * 1) t) acc n) : IntsAre acc.toList (upto n) := by
  obtain ⟨hs, hv⟩ := h
  obtain ⟨l⟩ := acc
  have hs : l.length = n := hs
  have hv : ∀ (j : Nat) v, l[j]? = some v → ∃ t, v = Value.int (j : Int) t := fun j v e => by
    obtain ⟨t, et⟩ := hv j v (by simpa using e)
    exact ⟨t, by simpa using et⟩
  show IntsAre l (upto n)
  subst hs
  unfold upto
  have key : ∀ (l : List Value) (k : Nat), (∀ (j : Nat) v, l[j]? = some v → ∃ t, v = Value.int ((k + j : Nat) : Int) t) → IntsAre l ((List.range' k l.length).map fun (i : Nat) => (i : Int)) := by
    intro l
    induction l with
    | nil => intro k _; exact .nil
    | cons v l ih =>
      intro k H
      obtain ⟨t, rfl⟩ := H 0 v rfl
      show IntsAre (_ :: l) ((k : Int) :: (List.range' (k + 1) l.length).map _)
      exact .cons _ _ (ih (k + 1) fun j v e => by
        obtain ⟨t', e'⟩ := H (j + 1) v (by simpa using e)
        exact ⟨t', by rw [e']; congr 2; omega⟩)
  have := key l 0 fun j v e => by obtain ⟨t, e'⟩ := hv j v e; exact ⟨t, by rw [e', Nat.zero_add]⟩
  rwa [← List.range_eq_range'] at this
section
variable {w : World} {A : Around} {E : Value → Shared → Prop} {s : Shared}
theorem collect_range {r : Addr} {n : Nat} {t u v : Tok} {Q : List Value → Shared → Prop} (hh : A.handled = none) (hr : IsRange s.heap r 0 n 1 t u v) (hn : n ≤ 1000)
    (h : ∀ vs h' tk, IntsAre vs (upto n) → Up s.heap h' → Q vs { s with heap := h', toks := tk }) : wpAny (model prg w) A (collect (.ref r)) Q E s := by
  have key : ∀ R : Result → Shared → Prop, (∀ h' tk acc' c', Up s.heap h' → h'.get? s.heap.objs.size = some { cls := .type "list", dict := none, data := .seq acc' c', slots := #[] } → IntsAre acc'.toList (upto n) → R (.ok (.ret (.ref s.heap.objs.size))) { s with heap := h', toks := tk }) →
      codeAny (model prg w) A (.builtin "proto.collect" ⟨[.ref r], []⟩) R s := fun R hR => by
    refine codeAny_builtin entry_proto_collect' ?_
    show wpAny _ _ (do again (.builtin "list.__iadd__" ⟨[← newList [], .ref r], []⟩)) _ _ s
    refine wpAny_bind (wpAny_newList (wpAny_pure ⟨Code.quiet_builtin _ (by decide +kernel), codeAny_builtin entry_list_iadd' ?_⟩))
    show wpAny _ _ (Builtin.List.listExtendWith (.ref s.heap.objs.size) (.ref r) (.ref s.heap.objs.size)) _ _ { s with heap := s.heap.push (seqObj "list" #[] 0) }
    rw [Around.under_plainId (by decide +kernel)]
    refine wpAny_extend_range (R := R) (s := { s with heap := s.heap.push (seqObj "list" #[] 0) }) hh (Heap.get?_push_of_some _ hr) (rsmall n hn) (rsize n) (by omega) s.heap.objs.size (.ref s.heap.objs.size) 0 (Heap.get?_push_size _ rfl) fun h' tk acc' c' k hS hi => ?_
    exact hR h' tk acc' c' (fun b o e => k b o (Nat.ne_of_lt (Heap.lt_size e)) (Heap.get?_push_of_some _ e)) hS (ints_upto hi)
  unfold collect
  refine wpAny_bind (wpAny_runValue (key _ fun h' tk acc' c' k hS hi => ?_))
  refine wpAny_bind (wpAny_load (o := { cls := .type "list", dict := none, data := .seq acc' c', slots := #[] }) hS ?_)
  exact wpAny_pure (h _ h' tk hi k)
/-- `sorted(range(n), key=f)`, to the kit's own rule for the list's sort -/
theorem sorted_range {h₀ : Heap} {L : Addr} {m : Str → Option Value} {news : List (Addr × Obj)} {r : Addr} {n : Nat} {t u v : Tok} {f : Value} {kw : List (Str × Value)} {Q : Value → Shared → Prop} (hh : A.handled = none) (F : Fr h₀ L s.heap m) (N : News h₀ L s.heap news) (hr : IsRange s.heap r 0 n 1 t u v) (h2 : 2 ≤ n) (h64 : n < 64)
    (ha1 : argsOk "sorted" ⟨[.ref r], kw⟩) (ha2 : ∀ x, argsOk "list.sort" ⟨[.ref x], kw⟩) (ht : ∀ x, Builtin.«list.sort» ⟨[.ref x], kw⟩ = ksk_tree x f false)
    (h : ∀ vs D kS e1 h' tk, IntsAre vs (upto n) → Fr h₀ L h' m → News h₀ L h' ((kS, seqObj "list" #[] 0) :: (D, seqObj "list" #[] e1) :: news) → D < kS → (∀ q ∈ news, q.1 < D) →
      KatKeys prg w A.in1.in1 h₀ L m kS f (fun ks e s' => wpAny (model prg w) A.in1.in1 (keyKind' (List.toArray ks)) (fun κ s'' => (kas_sort n).kasWp (kas_ask prg w A.in1.in1 κ ks) (fun p s3 => KatFin h₀ L m kS D ks e e1 (p.toList.map fun i => vs.getD i Value.none) (fun s4 => Q (.ref D) s4) s3) s'') (fun _ _ => False) s') vs [] 0 { s with heap := h', toks := tk }) :
    wpAny (model prg w) A (PySem.call (.builtin "sorted") [.ref r] kw) Q E s := by
  refine call_function_entry_kw kind_sorted plain_sorted entry_sorted ha1 ?_
  unfold Builtin.«sorted»
  refine wpAny_bind (m := checkCount "sorted" 1 1 _) (wpAny_pure ?_)
  refine wpAny_bind (collect_range hh hr (by omega) fun vs h1 tk hv up => ?_)
  have hl : vs.length = n := by rw [hv.length]; simp [upto]
  refine wpAny_bind (wpAny_newList ?_ (by rw [sizeLine_eq]; omega))
  have ho : (h1.push (seqObj "list" vs.toArray 0)).get? h1.objs.size = some (seqObj "list" vs.toArray 0) := Heap.get?_push_size _ rfl
  have keep : Up s.heap (h1.push (seqObj "list" vs.toArray 0)) := fun b o e => Heap.get?_push_of_some _ (up b o e)
  have hL : L < h1.objs.size := (F.kept up).ns.lt
  refine wpAny_bind (wpAny_holding (wpAny_call_entry_kw slot_list_sort ⟨_, ho, rfl⟩ entry_list_sort ?body (ha2 _)))
  case body =>
    show wpAny (model prg w) A.in1.in1 (Builtin.«list.sort» ⟨[.ref h1.objs.size], kw⟩) _ _ { s with heap := h1.push (seqObj "list" vs.toArray 0), toks := tk }
    rw [ht]
    refine kat_keyed (s := { s with heap := h1.push (seqObj "list" vs.toArray 0), toks := tk }) (F.kept keep) (N.grown keep) ho (Nat.ne_of_gt hL) (Heap.get?_none_of_le (Nat.le_trans F.above (Nat.le_of_lt hL)))
      (fun p hp => Nat.ne_of_lt (Heap.lt_size (up _ _ (N p hp).1))) (by omega) (by omega) fun kS e1 h' F' N' l0 l1 => ?_
    refine kat_keys_mono (h vs _ kS e1 h' tk hv F' N' l0 fun q hq => Heap.lt_size (up _ _ (N q hq).1)) fun ks e s' hl' hd => ?_
    have hl2 : ks.length = vs.length := by simpa using hl'
    rw [hl]
    refine wpAny_mono hd (fun κ s'' hk => ?_) fun _ _ x => x
    have hk : (kas_sort n).kasWp (kas_ask prg w A.in1.in1 κ (katRev false ks)) _ s'' := hk
    have e2 := kat_ask_eq (prog := prg) (w := w) (A := A.in1.in1) (κ := κ) (ks := katRev false ks) (vs := katRev false vs) (by rw [kat_len, kat_len, hl2])
    rw [e2] at hk ⊢
    exact kas_wp_mono hk fun p s3 hk' => hk'.mono fun s4 hq => ⟨_, rfl, wpAny_pure ⟨_, rfl, hq⟩⟩
end
end Mine
end

section
open PySem PySem.W PySem.W.X PySem.Calls PyProof.Rows
set_option maxRecDepth 100000
set_option linter.unusedVariables false
namespace Mine
section
variable {M : Model} {A : Around} {E : Value → Shared → Prop} {s : Shared}
theorem mapM_any {α β : Type} {f : α → Sem β} : ∀ (l : List α) {Q : List β → Shared → Prop}, (∀ v ∈ l, ∃ r, ∀ (Q' : β → Shared → Prop), Q' r s → wpAny M A (f v) Q' E s) → (∀ rs : List β, rs.length = l.length → Q rs s) → wpAny M A (l.mapM f) Q E s
  | [], _, _, h => by rw [List.mapM_nil]; exact wpAny_pure (h [] rfl)
  | x :: l, Q, hf, h => by
    rw [List.mapM_cons]
    obtain ⟨r, hr⟩ := hf x (.head _)
    exact wpAny_bind (hr _ (wpAny_bind (mapM_any l (Q := fun bs s' => wpAny M A (pure (r :: bs)) Q E s') (fun v hv => hf v (.tail _ hv)) fun rs hrs => wpAny_pure (h _ (by simp [hrs])))))
theorem keyKind_keys {ks : List Value} {Q : SortKind → Shared → Prop} (h1 : 0 < ks.length) (hT : ∀ v ∈ ks, ∃ i c r d, v = .ref i ∧ s.heap.get? i = some (inO c r d)) (hQ : ∀ κ, κ = oneType' ∨ κ = general' → Q κ s) : wpAny M A (keyKind' ks.toArray) Q E s := by
  obtain ⟨k, rest, rfl⟩ : ∃ k rest, ks = k :: rest := by
    match ks, h1 with
    | k :: rest, _ => exact ⟨k, rest, rfl⟩
  rw [keyKind'_eq, List.mapM_toArray, map_eq_pure_bind]
  refine wpAny_bind (wpAny_bind (kas_mapM (r := none) _ (fun v hv Q' hq => ?_) (wpAny_pure ?_)))
  · obtain ⟨i, c, r, d, rfl, e⟩ := hT v hv
    rw [kas_first_eq]
    refine wpAny_bind (wpAny_typeOf_ref e ?_)
    rw [if_pos (by rfl)]
    exact wpAny_pure hq
  · rw [if_neg (by simp), if_neg (by simp)]
    rw [oneTypeOnly'_eq, List.mapM_toArray, map_eq_pure_bind]
    refine wpAny_bind (wpAny_bind (wpAny_bind (mapM_any _ (fun v hv => ?_) fun rs hrs => wpAny_pure ?_)))
    · obtain ⟨i, c, r, d, rfl, e⟩ := hT v hv
      exact ⟨.ref c, fun Q' hq => wpAny_typeOf_ref e hq⟩
    · obtain ⟨t, ts, rfl⟩ : ∃ t ts, rs = t :: ts := by
        match rs, hrs with
        | t :: ts, _ => exact ⟨t, ts, rfl⟩
      have e0 : (t :: ts).toArray[0]? = some t := by simp
      rw [e0]
      refine wpAny_pure (wpAny_pure (hQ _ ?_))
      by_cases h : ((t :: ts).toArray.all fun x => x == t) = true
      · rw [if_pos h]; exact .inl rfl
      · rw [if_neg h]; exact .inr rfl
end
end Mine
end

section
open PySem PySem.W PySem.Calls PyProof.Rows
set_option maxRecDepth 100000
set_option linter.unusedVariables false
namespace Mine
/-- the questions that a sort puts, when they are answered by lt -/
noncomputable def ksOn {α : Type} (lt : Nat → Nat → Bool) (P : Nat → Nat → Prop) : KasT α → (α → Prop) → Prop
  | .ret a, Q => Q a
  | .ask i j k, Q => P i j ∧ ksOn lt P (k (lt i j)) Q
noncomputable def ksRun {α : Type} (lt : Nat → Nat → Bool) : KasT α → α
  | .ret a => a
  | .ask i j k => ksRun lt (k (lt i j))
theorem ksOn_bind {α β : Type} {lt : Nat → Nat → Bool} {P : Nat → Nat → Prop} {f : α → KasT β} {Q : β → Prop} : ∀ (t : KasT α), ksOn lt P t (fun a => ksOn lt P (f a) Q) → ksOn lt P (t.bind f) Q
  | .ret _, h => h
  | .ask i j k, h => ⟨h.1, ksOn_bind (k (lt i j)) h.2⟩
theorem ksOn_run {α : Type} {lt : Nat → Nat → Bool} {P : Nat → Nat → Prop} {Q : α → Prop} : ∀ (t : KasT α), ksOn lt P t Q → Q (ksRun lt t)
  | .ret _, h => h
  | .ask i j k, h => ksOn_run (k (lt i j)) h.2
theorem ksOn_eq {α : Type} {lt lt' : Nat → Nat → Bool} {P : Nat → Nat → Prop} {Q : α → Prop} (e : ∀ i j, P i j → lt i j = lt' i j) : ∀ (t : KasT α), ksOn lt P t Q → ksRun lt t = ksRun lt' t
  | .ret _, _ => rfl
  | .ask i j k, h => by
    show ksRun lt (k (lt i j)) = ksRun lt' (k (lt' i j))
    rw [← e i j h.1]
    exact ksOn_eq e (k (lt i j)) h.2
theorem ksOn_wp {α : Type} {lt : Nat → Nat → Bool} {P : Nat → Nat → Prop} {cmp : Nat → Nat → (Bool → Shared → Prop) → Shared → Prop} (J : Shared → Prop)
    (hc : ∀ i j C s, P i j → J s → (∀ s', J s' → C (lt i j) s') → cmp i j C s) {Q : α → Prop} {R : α → Shared → Prop} : ∀ (t : KasT α) (s : Shared), ksOn lt P t Q → J s → (∀ s', J s' → R (ksRun lt t) s') → t.kasWp cmp R s
  | .ret _, s, _, j, r => r s j
  | .ask i j k, s, h, js, r => hc i j _ s h.1 js fun s' js' => ksOn_wp J hc (k (lt i j)) s' h.2 js' r
noncomputable def KsI (n k : Nat) (p : Array Nat) : Prop := p.size = n ∧ (∀ j, j < k → p.getD j 0 < k) ∧ ∀ j, k ≤ j → j < n → p.getD j 0 = j
theorem getD_at {p : Array Nat} {j : Nat} (h : j < p.size) : p[j]? = some (p.getD j 0) := by
  simp [Array.getD, h]
theorem ksI_swap {n k : Nat} {p : Array Nat} (h : KsI n (k + 1) p) {a b : Nat} (ha : a ≤ k) (hb : b ≤ k) (hk : k < n) : KsI n (k + 1) (p.swapIfInBounds a b) := by
  obtain ⟨hs, h1, h2⟩ := h
  have key : ∀ j, j < n → (p.swapIfInBounds a b).getD j 0 = if b = j then p.getD a 0 else if a = j then p.getD b 0 else p.getD j 0 := fun j hj => by
    have e := getElem?_swapIB (xs := p) (i := a) (j := b) (by omega) (by omega) j
    have ha' : p[a]? = some (p.getD a 0) := getD_at (by omega)
    have hb' : p[b]? = some (p.getD b 0) := getD_at (by omega)
    have hj' : p[j]? = some (p.getD j 0) := getD_at (by omega)
    rw [ha', hb', hj', getD_at (by simp; omega)] at e
    split at e
    · rename_i h; rw [if_pos h]; injection e
    · rename_i h
      rw [if_neg h]
      split at e
      · rename_i h; rw [if_pos h]; injection e
      · rename_i h; rw [if_neg h]; injection e
  refine ⟨by simp [hs], fun j hj => ?_, fun j hj hjn => ?_⟩
  · rw [key j (by omega)]
    split
    · exact h1 _ (by omega)
    · split
      · exact h1 _ (by omega)
      · exact h1 _ hj
  · rw [key j hjn, if_neg (by omega), if_neg (by omega)]
    exact h2 j hj hjn
theorem ksI_bubble {n k : Nat} {p : Array Nat} (h : KsI n (k + 1) p) (hk : k < n) : ∀ d, KsI n (k + 1) (bubble p k d)
  | 0 => h
  | d + 1 => by
    rw [bubble_succ]
    exact ksI_swap (ksI_bubble h hk d) (by omega) (by omega) hk
theorem ksI_up {n k : Nat} {p : Array Nat} (h : KsI n k p) (hk : k < n) : KsI n (k + 1) p := by
  obtain ⟨hs, h1, h2⟩ := h
  refine ⟨hs, fun j hj => ?_, fun j hj hjn => h2 j (by omega) hjn⟩
  rcases Nat.lt_succ_iff_lt_or_eq.mp hj with hj | rfl
  · exact Nat.lt_succ_of_lt (h1 j hj)
  · rw [h2 j (Nat.le_refl _) hk]; exact Nat.lt_succ_self _
/-- the pairs that are asked -/
noncomputable def KsP (n i j : Nat) : Prop := i < n ∧ j < n ∧ (j < i ∨ (i = 0 ∧ j = 1))
theorem ks_place {lt : Nat → Nat → Bool} {n k : Nat} {p : Array Nat} (h : KsI n k p) (hk : k < n) : ∀ (f l r : Nat), r ≤ k → ksOn lt (KsP n) (kas_place p k f l r) fun _ => True
  | 0, l, r, _ => trivial
  | f + 1, l, r, hr => by
    unfold kas_place
    split
    · trivial
    · rename_i hlr
      have hm : (l + r) / 2 < k := by omega
      refine ⟨?_, ?_⟩
      · rw [h.2.2 k (Nat.le_refl _) hk]
        have := h.2.1 _ hm
        exact ⟨hk, Nat.lt_trans this hk, .inl this⟩
      · show ksOn lt _ (if lt (p.getD k 0) (p.getD ((l + r) / 2) 0) = true then _ else _) _
        cases lt (p.getD k 0) (p.getD ((l + r) / 2) 0)
        · exact ks_place h hk f _ r hr
        · exact ks_place h hk f l _ (by omega)
theorem ksOn_imp {α : Type} {lt : Nat → Nat → Bool} {P : Nat → Nat → Prop} {Q Q' : α → Prop} (h : ∀ a, Q a → Q' a) : ∀ (t : KasT α), ksOn lt P t Q → ksOn lt P t Q'
  | .ret _, x => h _ x
  | .ask i j k, x => ⟨x.1, ksOn_imp h (k (lt i j)) x.2⟩
theorem ks_bin {lt : Nat → Nat → Bool} {n : Nat} : ∀ (f k : Nat) (p : Array Nat), KsI n k p → k + f = n → ksOn lt (KsP n) (kas_bin f p k) fun q => KsI n n q
  | 0, k, p, h, e => by
    obtain rfl : k = n := by omega
    exact h
  | f + 1, k, p, h, e => by
    unfold kas_bin
    refine ksOn_bind _ (ksOn_imp (fun l _ => ?_) _ (ks_place h (by omega) k 0 k (Nat.le_refl _)))
    exact ks_bin f (k + 1) _ (ksI_bubble (ksI_up h (by omega)) (by omega) _) (by omega)
theorem ksI_range (n : Nat) : KsI n 2 (List.toArray (List.range n)) → True := fun _ => trivial
theorem range_getD {n j : Nat} (h : j < n) : (List.toArray (List.range n)).getD j 0 = j := by simp [Array.getD, h]
theorem ks_sort {lt : Nat → Nat → Bool} {n : Nat} (hn : 3 ≤ n) (h1 : lt 1 0 = false) (h2 : lt 2 1 = true) (h3 : lt 0 1 = true) : ksOn lt (KsP n) (kas_sort n) fun q => KsI n n q := by
  obtain ⟨m, rfl⟩ : ∃ m, n = m + 3 := ⟨n - 3, by omega⟩
  unfold kas_sort
  refine ksOn_bind _ ?_
  unfold kas_count
  refine ksOn_bind _ ?_
  have g0 : (List.toArray (List.range (m + 3))).getD 0 0 = 0 := range_getD (by omega)
  have g1 : (List.toArray (List.range (m + 3))).getD 1 0 = 1 := range_getD (by omega)
  have g2 : (List.toArray (List.range (m + 3))).getD 2 0 = 2 := range_getD (by omega)
  show ksOn lt _ (kas_asc _ (m + 2) 1) _
  unfold kas_asc
  refine ⟨by rw [g1, g0]; exact ⟨by omega, by omega, .inl (by omega)⟩, ?_⟩
  rw [g1, g0, h1]
  show ksOn lt _ (kas_asc _ (m + 1) 2) _
  unfold kas_asc
  refine ⟨by rw [g2, g1]; exact ⟨by omega, by omega, .inl (by omega)⟩, ?_⟩
  rw [g2, g1, h2]
  show ksOn lt _ (if (2 == m + 3) = true then KasT.ret (2, (List.range (m + 3)).toArray) else if 2 > 1 then KasT.ask 0 ((List.range (m + 3)).toArray.getD 1 0) fun c =>
            if c = true then KasT.ret (2, (List.range (m + 3)).toArray) else kas_descPart 2 (m + 3) (kas_rev (List.range (m + 3)).toArray 0 2)
        else kas_descPart 2 (m + 3) (List.range (m + 3)).toArray) _
  rw [if_neg (by simp), if_pos (by omega)]
  refine ⟨by rw [g1]; exact ⟨by omega, by omega, .inr ⟨rfl, rfl⟩⟩, ?_⟩
  rw [g1, h3]
  show ksOn lt _ (if 2 < m + 3 then kas_bin (m + 3 - max 2 1) (List.range (m + 3)).toArray (max 2 1) else KasT.ret (List.range (m + 3)).toArray) _
  rw [if_pos (by omega)]
  refine ks_bin _ _ _ ⟨by simp, fun j hj => ?_, fun j hj hjn => range_getD hjn⟩ (by show max 2 1 + (m + 3 - max 2 1) = _; omega)
  have hj : j < 2 := hj
  show _ < 2
  rw [range_getD (by omega)]; exact hj
noncomputable def orderOf (lt : Nat → Nat → Bool) (n : Nat) : List Int := (ksRun lt (kas_sort n)).toList.map fun (i : Nat) => (i : Int)
end Mine
end

section
open PySem PySem.W PySem.Calls PyProof.Rows
set_option maxRecDepth 100000
set_option linter.unusedVariables false
namespace Mine
theorem h0_get (a : Addr) : (({} : Heap)).get? a = none := none_size _ (Nat.zero_le _)
noncomputable def AllN (h : Heap) (L : Addr) : List (Addr × Obj) := (List.range h.objs.size).filterMap fun a => if a = L then none else (h.get? a).map fun o => (a, o)
theorem allN_mem {h : Heap} {L a : Addr} {o : Obj} : (a, o) ∈ AllN h L ↔ a ≠ L ∧ h.get? a = some o := by
  unfold AllN
  rw [List.mem_filterMap]
  constructor
  · rintro ⟨b, _, e⟩
    by_cases hb : b = L
    · rw [if_pos hb] at e; cases e
    · rw [if_neg hb] at e
      cases hq : h.get? b with
      | none => rw [hq] at e; cases e
      | some o' => rw [hq] at e; cases e; exact ⟨hb, hq⟩
  · rintro ⟨n, e⟩
    exact ⟨a, List.mem_range.mpr (Heap.lt_size e), by rw [if_neg n, e]; rfl⟩
theorem allN_nodup (h : Heap) (L : Addr) : (AllN h L).Pairwise fun p q => p.1 ≠ q.1 := by
  unfold AllN
  refine List.Pairwise.filterMap _ (fun a b hab p hp q hq => ?_) (List.nodup_range (n := h.objs.size))
  have e1 : p.1 = a := by
    by_cases hb : a = L
    · simp [hb] at hp
    · rw [if_neg hb] at hp
      cases hq : h.get? a with
      | none => rw [hq] at hp; cases hp
      | some o' => rw [hq] at hp; cases hp; rfl
  have e2 : q.1 = b := by
    by_cases hb : b = L
    · simp [hb] at hq
    · rw [if_neg hb] at hq
      cases hp : h.get? b with
      | none => rw [hp] at hq; cases hq
      | some o' => rw [hp] at hq; cases hq; rfl
  rw [e1, e2]; exact hab
theorem allN_news (h : Heap) (L : Addr) : News ({} : Heap) L h (AllN h L) := fun p hp => by
  obtain ⟨n, e⟩ := allN_mem.mp hp
  exact ⟨e, n, h0_get _⟩
theorem fr0 {h : Heap} {L : Addr} {m : Str → Option Value} (hn : h.Ns L m) : Fr ({} : Heap) L h m := ⟨hn, fun b o e => (by rw [h0_get] at e; cases e), Nat.zero_le _⟩
theorem upd_all {d : Addr} {o : Obj} : ∀ {l : List (Addr × Obj)}, (l.Pairwise fun p q => p.1 ≠ q.1) → (d, o) ∈ l → ∃ g, UpdF d o l g ∧ ∀ o', (d, o') ∈ g o' ∧ ∀ p ∈ l, p.1 ≠ d → p ∈ g o'
  | [], _, h => nomatch h
  | (a, x) :: r, hp, h => by
    obtain ⟨h1, h2⟩ := List.pairwise_cons.mp hp
    by_cases e : (d, o) = (a, x)
    · cases e
      exact ⟨_, .head fun p hp => (h1 p hp).symm, fun o' => ⟨.head _, fun p hp n => by
        rcases List.mem_cons.mp hp with rfl | hp
        · exact absurd rfl n
        · exact .tail _ hp⟩⟩
    · have hr : (d, o) ∈ r := (List.mem_cons.mp h).resolve_left e
      obtain ⟨g, u, k⟩ := upd_all h2 hr
      exact ⟨_, .tail (h1 _ hr) u, fun o' => ⟨.tail _ (k o').1, fun p hp n => by
        rcases List.mem_cons.mp hp with rfl | hp
        · exact .head _
        · exact .tail _ ((k o').2 p hp n)⟩⟩
theorem allN_upd {h : Heap} {L a : Addr} {o : Obj} (n : a ≠ L) (e : h.get? a = some o) : ∃ g, UpdF a o (AllN h L) g ∧ ∀ o' h', News ({} : Heap) L h' (g o') → h'.get? a = some o' ∧ ∀ b x, b ≠ a → b ≠ L → h.get? b = some x → h'.get? b = some x := by
  obtain ⟨g, u, k⟩ := upd_all (allN_nodup h L) (allN_mem.mpr ⟨n, e⟩)
  exact ⟨g, u, fun o' h' N => ⟨(N _ (k o').1).1, fun b x hb hL eb => (N (b, x) ((k o').2 _ (allN_mem.mpr ⟨hL, eb⟩) hb)).1⟩⟩
/-- what a change of own lists keeps -/
structure Jd (L : Addr) (m : Str → Option Value) (h₁ h : Heap) : Prop where
  kp : ∀ b o, b ≠ 113 → b ≠ L → h₁.get? b = some o → h.get? b = some o
  ns : h.Ns L m
  t13 : T13 h
theorem t13_but {h h' : Heap} {a L : Addr} (na : NoCode h a) (nL : NoCode h L) (ha : 113 ≠ a) (hL : 113 ≠ L) (k : ∀ b o, b ≠ a → b ≠ L → h.get? b = some o → h'.get? b = some o) (x : T13 h) : T13 h' := by
  obtain ⟨ps, e, tr, r⟩ := x
  refine ⟨ps, k _ _ ha hL e, tr, ?_⟩
  rcases r with r | ⟨c, r1, r2, r3⟩
  · exact .inl r
  · refine .inr ⟨c, r1, r2, ?_⟩
    obtain ⟨oa, ea, da⟩ := na
    obtain ⟨oL, eL, dL⟩ := nL
    obtain ⟨c', o, vs, t, e', g, d, r⟩ := r3
    exact ⟨c', o, vs, t, e', k _ _ (by rintro rfl; rw [ea] at g; cases g; exact da _ d _ _ r) (by rintro rfl; rw [eL] at g; cases g; exact dL _ d _ _ r) g, d, r⟩
theorem Jd.refl {L : Addr} {m : Str → Option Value} {h : Heap} (hn : h.Ns L m) (t : T13 h) : Jd L m h h := ⟨fun _ _ _ _ e => e, hn, t⟩
theorem Jd.upd {L a : Addr} {m : Str → Option Value} {h₁ h h' : Heap} (x : Jd L m h₁ h) (na : NoCode h a) (f : h₁.get? a = none) (ha : 113 ≠ a) (hL : 113 ≠ L) (k : ∀ b o, b ≠ a → b ≠ L → h.get? b = some o → h'.get? b = some o) (hn : h'.Ns L m) : Jd L m h₁ h' :=
  ⟨fun b o n1 n2 e => k b o (by rintro rfl; rw [f] at e; cases e) n2 (x.kp b o n1 n2 e), hn, t13_but na (ns_nf x.ns) ha hL k x.t13⟩
theorem Jd.kd {L : Addr} {m : Str → Option Value} {h₁ h h' : Heap} (x : Jd L m h₁ h) (hL : L ≠ 113) (k : Kd h h') : Jd L m h₁ h' :=
  ⟨fun b o n1 n2 e => k.1 b o n1 (x.kp b o n1 n2 e), ns_at x.ns fun o e => k.1 _ _ hL e, k.2 x.t13⟩
noncomputable def kB (L : Addr) (b : Addr) : Prop := b = 113 ∨ b = L ∨ b = L + 2 ∨ b = 127
noncomputable def retE : PySem.Expr := match (bodyAt 15).getD 4 (.Pass default) with | .Return (some e) _ => e | _ => .Name "" default
noncomputable def srtE : PySem.Expr := match retE with | .List [_, e] _ => e | _ => .Name "" default
noncomputable def lam2 : PySem.Expr := match srtE with | .Call _ _ [k] _ => k.value | _ => .Name "" default
noncomputable def lam2P : Arguments := match lam2 with | .Lambda p _ _ _ => p | _ => default
noncomputable def lam2B : PySem.Expr := match lam2 with | .Lambda _ b _ _ => b | _ => default
noncomputable def lam2S : Scope := match lam2 with | .Lambda _ _ s _ => s | _ => default
noncomputable def lam2p : Pos := match lam2 with | .Lambda _ _ _ p => p | _ => default
theorem lam2_eq : lam2 = .Lambda lam2P lam2B lam2S lam2p := by kernel_rfl
noncomputable def q15 : Str := "_law_told.<locals>.<lambda>"
noncomputable abbrev lam2O (c c' : Addr) (pm ctv : Value) : Obj := kla_obj "<lambda>" q15 lam2P lam2B lam2S [(Str.ofString "keys", c)] pm c' ctv
theorem hd15 {w : World} {h : Heap} (X : Gl w h) : CodeHd h 129 127 :=
  ⟨_, _, _, _, _, _, _, _, _, X.k 129 _ rfl, rfl, rfl, rfl, rfl, rfl, rfl, rfl, rfl, by decide⟩
section
variable {w : World} {A : Around} {E : Value → Shared → Prop} {s : Shared} {Q : Value → Shared → Prop} {L : Addr}
theorem lam2_made (X : Gl w s.heap) (ht : s.heap.get? 127 = some (tabObj #[]))
    (hQ : ∀ f c' pm ctv h' tk, (∀ b o, b ≠ 127 → s.heap.get? b = some o → h'.get? b = some o) → h'.get? f = some (lam2O (L + 2) c' pm ctv) → h'.CodeRec (.ref c') q15 → c' ≠ 113 → (∃ ps, h'.get? 127 = some (tabObj ps)) → Q (.ref f) { s with heap := h', toks := tk }) :
    wpAny (model prg w) A (eval lam2 (toldE L)) Q E s := by
  rw [lam2_eq]
  refine kla_eval rfl ?_
  obtain ⟨mg, y⟩ := X.g
  have e : closureFor lam2S (toldE L) = pure [(Str.ofString "keys", L + 2)] := by kernel_rfl
  refine kla_makeFunction e rfl y rfl (hd15 X) ht trivial rfl (by decide) (bat X y _ (by decide)) fun c' ctv h' tk hx hge hlt hrec htb => ?_
  exact hQ _ c' _ ctv _ tk (fun b o hb e => Heap.get?_push_of_some _ (hx b o hb e)) (Heap.get?_push_size _ rfl) (hrec.push _) (Nat.ne_of_gt (Nat.lt_of_lt_of_le (by decide : 113 < 143) (Nat.le_trans X.size hge))) ⟨_, Heap.get?_push_of_some _ htb⟩
theorem lam2_call {f c c' D : Addr} {pm ctv : Value} {ys : List Value} {k : Nat} {t : Tok} (hA : Ar 2 A) (X : Gl w s.heap) (hf : s.heap.get? f = some (lam2O c c' pm ctv)) (hr : s.heap.CodeRec (.ref c') q15)
    (hc : s.heap.IsCell c (some (.ref D))) (hD : s.heap.IsList D ys.toArray) (hk : k < ys.length) (hl : ys.length ≤ 1000)
    (hQ : ∀ s', Keeps s s' → Q (ys.getD k .none) s') :
    wpAny (model prg w) A (PySem.call (.ref f) [.int k t]) Q E s := by
  refine wpAny_call ?_
  refine kla_callFunE (body := lam2B) hA.room hf rfl rfl rfl rfl hr ?_
  refine wpAny_of_eq (a := [(Str.ofString "k", Value.int k t)]) (by rfl) ?_
  refine wpAny_newFunctionEnv (by show ∀ x ∈ lam2S.names, x.2 ≠ .cell; decide) (locs rfl) (fun h₁ hns hsb => ⟨X.lim.fresh _ hsb, ?_⟩) rfl
  have up : Up s.heap h₁ := fun b o e => hsb.extBut b o (Nat.ne_of_lt (Heap.lt_size e)) (Heap.get?_push_of_some _ e)
  refine kla_codeExpr (wpAny_mono (E := fun _ _ => False) (Q := fun v s' => Q v s') ?_ (fun v s' q => q) fun _ _ x => x.elim)
  refine Subscript_ (wpAny_Name (wpAny_loadName_free (c := c) rfl rfl rfl (hc.keeps up) ?_))
  refine wpAny_Name (wpAny_loadName_local rfl rfl hns rfl ?_)
  refine item_list (isList_keeps hD up) (Int.natCast_nonneg k) (by omega) (by omega) ?_
  exact hQ _ ⟨_, _, rfl, up⟩
end
end Mine
end

section
open PySem PySem.W PySem.Calls PyProof.Rows
set_option maxRecDepth 100000
set_option linter.unusedVariables false
namespace Mine
theorem KeyAt.jd {w : World} {L : Addr} {m : Str → Option Value} {h h' : Heap} {v : Value} {r : Addr} {ps : Array Value} (x : KeyAt w (kB L) h v r) (t16 : h.get? 16 = some (tabObj ps)) (k : Jd L m h h') : KeyAt w (kB L) h' v r :=
  x.ag t16 fun b o nb _ e => k.kp b o (fun q => nb (.inl q)) (fun q => nb (.inr (.inl q))) e
theorem jd_get {L : Addr} {m m₀ : Str → Option Value} {h h' : Heap} (x : Jd L m h h') {a : Addr} {o : Obj} (t : T13 h) (hn : h.Ns L m₀) (e : h.get? a = some o) (d1 : o ≠ tabObj (match o.data with | .fields v => v | _ => #[])) (d2 : ∀ es n, o.data ≠ .dict es n) : h'.get? a = some o :=
  x.kp a o (by
    rintro rfl
    obtain ⟨ps, e', _⟩ := t
    rw [e] at e'; cases e'; exact d1 rfl) (by
    rintro rfl
    obtain ⟨o', es, ep, e', d', _⟩ := hn
    rw [e] at e'; cases e'; exact d2 _ _ d') e
theorem jd_list {L : Addr} {m m₀ : Str → Option Value} {h h' : Heap} (x : Jd L m h h') {a : Addr} {vs : Array Value} (t : T13 h) (hn : h.Ns L m₀) (e : h.IsList a vs) : h'.IsList a vs := isList_at e fun o e' => x.kp a o (ne113_list t e) (list_ne_ns e hn) e'
theorem jd_ints {L : Addr} {m m₀ : Str → Option Value} {h h' : Heap} (x : Jd L m h h') {a : Addr} {ns : List Int} (t : T13 h) (hn : h.Ns L m₀) (e : LInts h a ns) : LInts h' a ns := let ⟨vs, i, r⟩ := e; ⟨vs, jd_list x t hn i, r⟩
theorem jd_cell {L : Addr} {m m₀ : Str → Option Value} {h h' : Heap} (x : Jd L m h h') {a : Addr} {v : Option Value} (t : T13 h) (hn : h.Ns L m₀) (e : h.IsCell a v) : h'.IsCell a v := cell_at e fun o e' => x.kp a o (by
    rintro rfl
    obtain ⟨ps, e1, _⟩ := t
    obtain ⟨o', e2, d⟩ := e
    rw [e1] at e2; cases e2; cases d) (by
    rintro rfl
    obtain ⟨o1, es, ep, e1, d1, _⟩ := hn
    obtain ⟨o2, e2, d2⟩ := e
    rw [e1] at e2; cases e2; rw [d1] at d2; cases d2) e'
theorem jd_rec {L : Addr} {m m₀ : Str → Option Value} {h h' : Heap} (x : Jd L m h h') {c : Value} {q : Str} (t : T13 h) (hn : h.Ns L m₀) (n : c ≠ .ref 113) (e : h.CodeRec c q) : h'.CodeRec c q := by
  obtain ⟨c', o, vs, t, rfl, g, d, r⟩ := e
  refine ⟨c', o, vs, t, rfl, x.kp _ _ (fun q => n (by rw [q])) (by
    rintro rfl
    obtain ⟨o1, es, ep, e1, d1, _⟩ := hn
    rw [g] at e1; cases e1; rw [d] at d1; cases d1) g, d, r⟩
theorem nlook {β : Type} {a : Nat} {o : β} : ∀ {l : List (Nat × β)}, l.lookup a = some o → (a, o) ∈ l
  | [], e => nomatch e
  | (b, x) :: l, e => by
    rw [List.lookup_cons] at e
    by_cases h : a = b
    · subst h
      rw [show (a == a) = true from by simp] at e
      cases e; exact .head _
    · rw [show (a == b) = false from by simp [h]] at e
      exact .tail _ (nlook e)
theorem K_lt (P : Params) (a : Addr) (o : Obj) (e : (K P).lookup a = some o) : a < 143 := by
  have h : ((K P).map (·.1)).all (fun a => Nat.blt a 143) = true := by kernel_rfl
  have m := nlook e
  have := List.all_eq_true.mp h a (List.mem_map.mpr ⟨_, m, rfl⟩)
  simpa using this
theorem ns_lo {h h' : Heap} {a : Addr} {m : Str → Option Value} (x : h.Ns a m) (k : ∀ b o, b < 143 → b ∉ tabs3 → h.get? b = some o → h'.get? b = some o) (ha : a ∉ tabs3) (hl : a < 143) : h'.Ns a m := ns_at x fun o e => k _ _ hl ha e
theorem Gl.lo {w : World} {h h' : Heap} (x : Gl w h) (k : ∀ b o, b < 143 → b ∉ tabs3 → h.get? b = some o → h'.get? b = some o) : Gl w h' :=
  ⟨fun a o e => k a o (K_lt _ a o e) (K_no_tab _ a o e) (x.k a o e), let ⟨mg, y⟩ := x.g; ⟨mg, ns_lo y k (by decide) (by decide)⟩, let ⟨mb, y, z⟩ := x.b; ⟨mb, ns_lo y k (by decide) (by decide), z⟩,
    let ⟨mc, y, z⟩ := x.lim; ⟨mc, ns_lo y k (by decide) (by decide), z⟩, let ⟨ob, y, z⟩ := x.bm; ⟨ob, k _ _ (by decide) (by decide) y, z⟩⟩
theorem jd_gl {w : World} {L : Addr} {m : Str → Option Value} {h h' : Heap} (hL : 143 ≤ L) (X : Gl w h) (x : Jd L m h h') : Gl w h' :=
  X.lo fun b o hb n e => x.kp b o (fun q => n (by rw [q]; decide)) (Nat.ne_of_lt (Nat.lt_of_lt_of_le hb hL)) e
/-- all that the sort needs -/
structure Sk (w : World) (L : Addr) (ys : List Value) (rr : Nat → Addr) (rw' : Nat → List Int) (c D0 f c' : Addr) (pm ctv : Value) (h : Heap) : Prop where
  gl : Gl w h
  t13 : T13 h
  ns : ∃ m, h.Ns L m
  hL : 143 ≤ L
  cel : h.IsCell c (some (.ref D0))
  lst : h.IsList D0 ys.toArray
  t16 : T16 (kB L) h
  keys : ∀ k, k < ys.length → KeyAt w (kB L) h (ys.getD k .none) (rr k) ∧ LInts h (rr k) (rw' k) ∧ (rw' k).length = 5
  fn : h.get? f = some (lam2O c c' pm ctv)
  crec : h.CodeRec (.ref c') q15
  nc : c' ≠ 113
theorem Sk.jd {w : World} {L : Addr} {ys : List Value} {rr : Nat → Addr} {rw' : Nat → List Int} {c D0 f c' : Addr} {pm ctv : Value} {m : Str → Option Value} {h h' : Heap} (x : Sk w L ys rr rw' c D0 f c' pm ctv h) (k : Jd L m h h') : Sk w L ys rr rw' c D0 f c' pm ctv h' := by
  obtain ⟨m0, hn⟩ := x.ns
  obtain ⟨ps, e16⟩ := x.t16.tab
  refine ⟨jd_gl x.hL x.gl k, k.t13, ⟨m, k.ns⟩, x.hL, jd_cell k x.t13 hn x.cel, jd_list k x.t13 hn x.lst, ?_, fun i hi => ?_, ?_, jd_rec k x.t13 hn (fun q => x.nc (by injection q)) x.crec, x.nc⟩
  · exact x.t16.ag (fun b => b.elim (by decide) fun q => q.elim (fun q => absurd x.hL (by rw [← q]; decide)) fun q => q.elim (fun q => absurd (Nat.le_add_right_of_le (k := 2) x.hL) (by rw [← q]; decide)) (by decide)) fun b o nb e => k.kp b o (fun q => nb (.inl q)) (fun q => nb (.inr (.inl q))) e
  · obtain ⟨a, b, c⟩ := x.keys i hi
    exact ⟨a.jd e16 k, jd_ints k x.t13 hn b, c⟩
  · refine jd_get k x.t13 hn x.fn (fun q => ?_) fun es n q => ?_
    · have := congrArg Obj.cls q
      cases this
    · cases q
end Mine
end

section
open PySem PySem.W PySem.Calls PyProof.Rows
set_option maxRecDepth 100000
set_option linter.unusedVariables false
namespace Mine
noncomputable def ltR (rw' : Nat → List Int) (i j : Nat) : Bool := decide (cmpL (rw' i) (rw' j) < 0)
noncomputable def Sh (s s' : Shared) : Prop := ∃ h' tk, s' = { s with heap := h', toks := tk }
theorem Sh.refl (s : Shared) : Sh s s := ⟨s.heap, s.toks, rfl⟩
theorem Sh.trans {s s' s'' : Shared} (x : Sh s s') (y : Sh s' s'') : Sh s s'' := by
  obtain ⟨h, t, rfl⟩ := x
  obtain ⟨h', t', rfl⟩ := y
  exact ⟨h', t', rfl⟩
theorem Sh.keeps {s s' : Shared} (x : Keeps s s') : Sh s s' := let ⟨h, t, e, _⟩ := x; ⟨h, t, e⟩
theorem Sh.ks {s s' : Shared} (x : KS s s') : Sh s s' := let ⟨h, t, e, _⟩ := x; ⟨h, t, e⟩
theorem Sh.ch {s s' : Shared} {a : Addr} (x : Ch a s s') : Sh s s' := let ⟨h, t, e, _⟩ := x; ⟨h, t, e⟩
theorem listIs {h : Heap} {a : Addr} {vs : Array Value} {e : Nat} (x : h.get? a = some (seqObj "list" vs e)) : h.IsList a vs := ⟨_, x, rfl, e, rfl⟩
theorem seq_nocode {h : Heap} {a : Addr} {vs : Array Value} {e : Nat} (x : h.get? a = some (seqObj "list" vs e)) : NoCode h a := list_nf (listIs x)
section
variable {w : World} {A : Around} {E : Value → Shared → Prop} {s : Shared} {Q : Value → Shared → Prop}
theorem told_sorted {L c D0 f c' r : Addr} {pm ctv : Value} {ys : List Value} {rr : Nat → Addr} {rw' : Nat → List Int} {n : Nat} {tt uu vv : Tok} {m : Str → Option Value}
    (hA : Ar 8 A) (S : Sk w L ys rr rw' c D0 f c' pm ctv s.heap) (hn : s.heap.Ns L m) (hr : IsRange s.heap r 0 n 1 tt uu vv) (hl : ys.length = n) (h3 : 3 ≤ n) (h64 : n < 64)
    (q1 : ltR rw' 1 0 = false) (q2 : ltR rw' 2 1 = true) (q3 : ltR rw' 0 1 = true)
    (hQ : ∀ D s', s.heap.get? D = none → Sh s s' → Jd L m s.heap s'.heap → LInts s'.heap D (orderOf (ltR rw') n) → Q (.ref D) s') :
    wpAny (model prg w) A (PySem.call (.builtin "sorted") [.ref r] [(Str.ofString "key", .ref f)]) Q E s := by
  refine sorted_range hA.hh (fr0 hn) (allN_news _ _) hr (by omega) h64 (ksk_s1 _ _) (fun x => ksk_l1 _ _) (fun x => ksk_t1 _ _) fun vs D kS e1 h' tk hv F' N' hlt hold => ?_
  have gk : h'.get? kS = some (seqObj "list" #[] 0) := (N' (kS, _) (.head _)).1
  have nk : kS ≠ L := (N' (kS, _) (.head _)).2.1
  have gD : h'.get? D = some (seqObj "list" #[] e1) := (N' (D, _) (.tail _ (.head _))).1
  have nD : D ≠ L := (N' (D, _) (.tail _ (.head _))).2.1
  have old : ∀ b o, b ≠ L → s.heap.get? b = some o → b < D := fun b o hb e => hold (b, o) (allN_mem.mpr ⟨hb, e⟩)
  have kept : ∀ b o, b ≠ L → s.heap.get? b = some o → h'.get? b = some o := fun b o hb e => (N' (b, o) (.tail _ (.tail _ (allN_mem.mpr ⟨hb, e⟩)))).1
  have fD : s.heap.get? D = none := by
    cases q : s.heap.get? D with
    | none => rfl
    | some o => exact absurd (old _ _ nD q) (Nat.lt_irrefl _)
  have fk : s.heap.get? kS = none := by
    cases q : s.heap.get? kS with
    | none => rfl
    | some o => exact absurd (old _ _ nk q) (Nat.not_lt.mpr (Nat.le_of_lt hlt))
  have hL : (113 : Nat) ≠ L := Nat.ne_of_lt (Nat.lt_of_lt_of_le (by decide) S.hL)
  have hD113 : (113 : Nat) < D := by
    obtain ⟨ps, e, _⟩ := S.t13
    exact old _ _ hL e
  have hk113 : (113 : Nat) < kS := Nat.lt_trans hD113 hlt
  have hDk : D ≠ kS := Nat.ne_of_lt hlt
  obtain ⟨J, hJ⟩ : ∃ J : Shared → Prop, J = fun s' => Sh s s' ∧ Jd L m s.heap s'.heap ∧ s'.heap.get? D = some (seqObj "list" #[] e1) := ⟨_, rfl⟩
  have Ji : ∀ {s'}, J s' ↔ Sh s s' ∧ Jd L m s.heap s'.heap ∧ s'.heap.get? D = some (seqObj "list" #[] e1) := fun {s'} => by rw [hJ]
  have J0 : J { s with heap := h', toks := tk } := by
    refine Ji.mpr ⟨⟨_, _, rfl⟩, ⟨fun b o _ n2 e => kept b o n2 e, F'.ns, ?_⟩, gD⟩
    exact t13_but (ns_nf hn) (ns_nf hn) hL hL (fun b o _ n2 e => kept b o n2 e) S.t13
  have hvl : vs.length = n := by rw [hv.length]; simp [upto]
  have hget : ∀ (k : Nat) (v : Value), vs[k]? = some v → ∃ t, v = Value.int (k : Int) t := fun k v e => by
    obtain ⟨hk, _⟩ := List.getElem?_eq_some_iff.mp e
    obtain ⟨t, et⟩ := ints_getD hv (k := k) (by simp [upto]; omega)
    rw [List.getD_eq_getElem?_getD, e] at et
    refine ⟨t, ?_⟩
    have : (upto n).getD k 0 = (k : Int) := by
      simp [upto, List.getD_eq_getElem?_getD, List.getElem?_map, List.getElem?_range (show k < n by omega)]
    rw [this] at et
    exact et
  have main : ∀ (rest ks : List Value) (e : Nat) (s' : Shared), J s' → s'.heap.get? kS = some (seqObj "list" ks.toArray e) → ks = ys.take ks.length → vs.drop ks.length = rest →
      KatKeys prg w A.in1.in1 ({} : Heap) L m kS (.ref f) (fun ks e s' => wpAny (model prg w) A.in1.in1 (keyKind' (List.toArray ks)) (fun κ s'' => (kas_sort n).kasWp (kas_ask prg w A.in1.in1 κ ks) (fun p s3 => KatFin ({} : Heap) L m kS D ks e e1 (p.toList.map fun i => vs.getD i Value.none) (fun s4 => Q (.ref D) s4) s3) s'') (fun _ _ => False) s') rest ks e s' := by
    intro rest
    induction rest with
    | nil =>
      intro ks e s' hj gk' hks hdr
      refine KatKeys.nil ?_
      have hlen : n ≤ ks.length := by
        have := List.drop_eq_nil_iff.mp hdr
        omega
      obtain rfl : ks = ys := by rw [hks]; exact List.take_of_length_le (by omega)
      obtain ⟨sh, jd, gD'⟩ := Ji.mp hj
      have S' := S.jd jd
      have keyAt : ∀ {h : Heap}, Sk w L ks rr rw' c D0 f c' pm ctv h → ∀ v ∈ ks, ∃ i c r d, v = Value.ref i ∧ h.get? i = some (inO c r d) := fun S v hv => by
        obtain ⟨i, hi, rfl⟩ := List.getElem_of_mem hv
        obtain ⟨⟨a, b, d, e, e2, _⟩, _⟩ := S.keys i hi
        rw [List.getD_eq_getElem?_getD, List.getElem?_eq_getElem hi] at e
        exact ⟨a, b, _, d, e, e2⟩
      refine keyKind_keys (by omega) (keyAt S') fun κ hκ => ?_
      have hon := ks_sort (lt := ltR rw') h3 q1 q2 q3
      have hfin := ksOn_run _ hon
      refine ksOn_wp (lt := ltR rw') (P := KsP n) (fun s'' => J s'' ∧ s''.heap.get? kS = some (seqObj "list" ks.toArray e)) ?_ _ _ hon ⟨hj, gk'⟩ ?_
      · rintro i j C s4 ⟨hi, hjn, _⟩ ⟨hj4, g4⟩ hC
        obtain ⟨sh4, jd4, gD4⟩ := Ji.mp hj4
        have S4 := S.jd jd4
        obtain ⟨⟨ai, ci, di, ei, gi, Ci, _⟩, li, h5i⟩ := S4.keys i (by omega)
        obtain ⟨⟨aj, cj, dj, ej, gj, Cj, _⟩, lj, h5j⟩ := S4.keys j (by omega)
        show wpAny (model prg w) A.in1.in1 (keyLt' κ (ks.getD i Value.none) (ks.getD j Value.none)) C (fun _ _ => False) s4
        rw [ei, ej]
        refine keyLt_keys hκ (hA.in1.in1.le (by decide)) ⟨S4.gl, S4.t13⟩ gi gj Ci Cj li lj h5i h5j fun s5 k5 => ?_
        exact hC s5 ⟨Ji.mpr ⟨sh4.trans (Sh.ks k5), jd4.kd (fun q => hL q.symm) k5.d, k5.get _ _ (Nat.ne_of_gt hD113) gD4⟩, k5.get _ _ (Nat.ne_of_gt hk113) g4⟩
      · rintro s5 ⟨hj5, g5⟩
        obtain ⟨sh5, jd5, gD5⟩ := Ji.mp hj5
        obtain ⟨g, u, hg⟩ := allN_upd nk g5
        refine KatFin.intro (fr0 jd5.ns) (allN_news _ _) u fun h6 c6 F6 N6 => ?_
        obtain ⟨g61, g62⟩ := hg _ _ N6
        have jd6 := jd5.upd (seq_nocode g5) fk (Nat.ne_of_lt hk113) hL g62 F6.ns
        have gD6 : h6.get? D = _ := g62 _ _ hDk nD gD5
        obtain ⟨g', u', hg'⟩ := allN_upd nD gD6
        refine KasFin.intro (fr0 F6.ns) (allN_news _ _) u' fun h7 c7 F7 N7 => ?_
        obtain ⟨g71, g72⟩ := hg' _ _ N7
        have jd7 := jd6.upd (seq_nocode gD6) fD (Nat.ne_of_lt hD113) hL g72 F7.ns
        refine hQ D _ fD (sh5.trans ⟨_, _, rfl⟩) jd7 ⟨_, listIs g71, ?_⟩
        have hp : ∀ i ∈ (ksRun (ltR rw') (kas_sort n)).toList, i < n := fun i hi => by
          obtain ⟨k, hk, rfl⟩ := List.getElem_of_mem hi
          have hk' : k < (ksRun (ltR rw') (kas_sort n)).size := by simpa using hk
          have := hfin.2.1 k (by rw [← hfin.1]; exact hk')
          simpa [Array.getD, hk'] using this
        unfold orderOf
        generalize (ksRun (ltR rw') (kas_sort n)).toList = l at hp
        induction l with
        | nil => exact .nil
        | cons i l ihl =>
          have hi := hp i (.head _)
          obtain ⟨t, et⟩ := hget i (vs.getD i .none) (getD_some _ (by omega))
          show IntsAre (vs.getD i .none :: l.map _) ((i : Int) :: l.map _)
          rw [et]
          exact .cons _ _ (ihl fun j hj => hp j (.tail _ hj))
    | cons v rest ih =>
      intro ks e s' hj gk' hks hdr
      refine KatKeys.cons ?_
      obtain ⟨sh, jd, gD'⟩ := Ji.mp hj
      have S' := S.jd jd
      have hkn : ks.length < n := by
        have : ¬ vs.length ≤ ks.length := fun h => by rw [List.drop_eq_nil_iff.mpr h] at hdr; cases hdr
        omega
      have ev : vs[ks.length]? = some v := by
        have := congrArg (fun l => l[0]?) hdr
        simpa using this
      obtain ⟨t, rfl⟩ := hget _ _ ev
      refine lam2_call (hA.in1.in1.le (by decide)) S'.gl S'.fn S'.crec S'.cel S'.lst (by omega) (by omega) fun s2 k2 => ?_
      have jd2 := jd.kd (fun q => hL q.symm) (KS.of_keeps k2).d
      have gk2 := kup k2 _ _ gk'
      obtain ⟨g, u, hg⟩ := allN_upd nk gk2
      refine KatBack.intro (fr0 jd2.ns) (allN_news _ _) u fun h3 c3 F3 N3 => ?_
      obtain ⟨g1, g2⟩ := hg _ _ N3
      have e1 : ks ++ [ys.getD ks.length .none] = ys.take (ks ++ [ys.getD ks.length .none]).length := by
        rw [List.length_append, List.length_singleton, List.take_add_one, ← hks]
        congr 1
        rw [List.getElem?_eq_getElem (by omega), List.getD_eq_getElem?_getD, List.getElem?_eq_getElem (by omega)]
        rfl
      refine ih _ _ _ (Ji.mpr ⟨sh.trans ((Sh.keeps k2).trans ⟨_, _, rfl⟩), jd2.upd (seq_nocode gk2) fk (Nat.ne_of_lt hk113) hL g2 F3.ns, g2 _ _ hDk nD (kup k2 _ _ gD')⟩) g1 e1 ?_
      rw [List.length_append, List.length_singleton, ← List.drop_drop, hdr]
      rfl
  refine main vs [] 0 _ J0 gk (by simp) rfl
end
end Mine
end

section
open PySem PySem.W PySem.Calls PyProof.Rows
set_option maxRecDepth 100000
set_option linter.unusedVariables false
namespace Mine
theorem kp_but {h₀ h h' : Heap} {a : Addr} (x : Kp h₀ h) (k : ∀ b o, b ≠ a → h.get? b = some o → h'.get? b = some o) (ha : h₀.objs.size ≤ a ∨ a ∈ tabs3) : Kp h₀ h' := fun b o e n => k b o (by
  rintro rfl
  exact ha.elim (fun q => absurd (Heap.lt_size e) (Nat.not_lt.mpr q)) n) (x b o e n)
theorem kp_jd {h₀ h h' : Heap} {L : Addr} {m : Str → Option Value} (x : Kp h₀ h) (k : Jd L m h h') (ha : h₀.objs.size ≤ L) : Kp h₀ h' := fun b o e n =>
  k.kp b o (fun q => n (by rw [q]; decide)) (by rintro rfl; exact absurd (Heap.lt_size e) (Nat.not_lt.mpr ha)) (x b o e n)
theorem Told.lk {h h' : Heap} {T R : Addr} {ns : List Int} {i : Nat} (x : Told h T R ns i) (k : LK h h') : Told h' T R ns i := by
  obtain ⟨ts, rs, p1, p2, z1, z2, H⟩ := x
  exact ⟨ts, rs, k.plain p1, k.plain p2, z1, z2, told_keep p1 p2 z1 z2 H fun b o _ _ e d => k b o e d⟩
theorem lk_tab {h h' : Heap} {a : Addr} {ps : Array Value} (e : h.get? a = some (tabObj ps)) (k : ∀ b o, b ≠ a → h.get? b = some o → h'.get? b = some o) : LK h h' := fun b o eb d => k b o (by
  rintro rfl
  rw [e] at eb; cases eb
  obtain ⟨vs, n, d⟩ := d
  cases d) eb
theorem lk_jd {h h' : Heap} {L : Addr} {m m₀ : Str → Option Value} (t : T13 h) (hn : h.Ns L m₀) (k : Jd L m h h') : LK h h' := fun b o e d => k.kp b o (by
  rintro rfl
  obtain ⟨ps, e', _⟩ := t
  rw [e] at e'; cases e'
  obtain ⟨vs, n, d⟩ := d
  cases d) (by
  rintro rfl
  obtain ⟨o', es, ep, e', d', _⟩ := hn
  rw [e] at e'; cases e'
  obtain ⟨vs, n, d⟩ := d
  rw [d] at d'; cases d') e
theorem tab_nocode {h : Heap} {a : Addr} (e : h.get? a = some (tabObj #[])) : NoCode h a := ⟨_, e, fun vs q i t => by cases q; simp⟩
noncomputable def ltN (ns : List Int) : Nat → Nat → Bool := ltR fun k => rowN (ns.getD k 0)
section
variable {w : World} {A : Around} {E : Value → Shared → Prop} {s : Shared} {Q : Value → Shared → Prop} {env : Env}
theorem call_kw {func : PySem.Expr} {args : List PySem.Expr} {kws : List Keyword} {pos : Pos} {Q : Value → Shared → Prop}
    (h : wpAny (model prg w) A (eval func env) (fun f s₁ => wpAny (model prg w) A (callWith pos f [] (backTo pos (starEach args env)) (backToKw pos (keywordEach kws env))) Q E s₁) E s)
    (he : eval (.Call func args kws pos) env = (do callWith pos (← eval func env) [] (backTo pos (starEach args env)) (backToKw pos (keywordEach kws env))) := by rfl) :
    wpAny (model prg w) A (eval (.Call func args kws pos) env) Q E s := by
  rw [he]; exact wpAny_bind h
theorem told_spec {l : Addr} {ns : List Int} (hA : Ar 87 A) (X : TG w s.heap) (e16 : s.heap.get? 16 = some (tabObj #[])) (e127 : s.heap.get? 127 = some (tabObj #[])) (hl : LInts s.heap l ns) (h3 : 3 ≤ ns.length) (h64 : ns.length < 64)
    (q1 : ltN ns 1 0 = false) (q2 : ltN ns 2 1 = true) (q3 : ltN ns 0 1 = true)
    (hQ : ∀ D s' T R O, Sh s s' → Kp s.heap s'.heap → s'.heap.IsList D #[.ref T, .ref O] → Told s'.heap T R ns ns.length → LInts s'.heap O (orderOf (ltN ns) ns.length) → T13 s'.heap → (∃ ps, s'.heap.get? 16 = some (tabObj ps)) → (∃ ps, s'.heap.get? 127 = some (tabObj ps)) → Q (.ref D) s') :
    wpAny (model prg w) A (PySem.call (.ref 130) [.ref l]) Q E s := by
  refine enter (body := bodyAt 15) hA X.1 rfl rfl rfl rfl rfl rfl rfl rfl rfl (fun s₁ y₁ => ?_)
  have k₁ : Keeps s s₁ := y₁.done
  have x₁ := Fn.of y₁ (Nat.le_trans (by decide) X.1.size)
  have X₁ := X.d x₁.ks.d
  have hl₁ : LInts s₁.heap l ns := hl.up (kup k₁)
  refine wpAny_execs_cons ?_
  refine wpAny_Assign_Name ?_
  refine List_ (spliced_none ?_)
  refine wpAny_newList ?_
  have hT₁ : (s₁.heap.push (seqObj "list" #[] 0)).PlainList s₁.heap.objs.size #[] := ⟨0, Heap.get?_push_size _ rfl⟩
  have k₂ : Keeps s₁ { s₁ with heap := s₁.heap.push (seqObj "list" #[] 0) } := ⟨_, _, rfl, up_push _ _⟩
  have x₂ := x₁.to (KS.of_keeps k₂)
  refine x₂.st rfl rfl fun s₃ x₃ c₃ => ?_
  have nT : s₁.heap.objs.size ≠ s.heap.objs.size := fun q => absurd (Heap.lt_size (y₁.toInCall.ns.choose_spec.choose_spec.choose_spec.1)) (Nat.not_lt.mpr (Nat.le_of_eq q))
  have hT₃ : s₃.heap.PlainList s₁.heap.objs.size #[] := hT₁.at fun o e => c₃.up _ _ nT e
  have hl₃ : LInts s₃.heap l ns := lints_ch (hl₁.up (up_push _ _)) x₂.ns c₃
  refine wpAny_execs_cons ?_
  refine wpAny_Assign_Name ?_
  refine List_ (spliced_none ?_)
  refine wpAny_newList ?_
  have hR₃ : (s₃.heap.push (seqObj "list" #[] 0)).PlainList s₃.heap.objs.size #[] := ⟨0, Heap.get?_push_size _ rfl⟩
  have k₄ : Keeps s₃ { s₃ with heap := s₃.heap.push (seqObj "list" #[] 0) } := ⟨_, _, rfl, up_push _ _⟩
  have x₄ := x₃.to (KS.of_keeps k₄)
  refine x₄.st rfl rfl fun s₅ x₅ c₅ => ?_
  have nR : s₃.heap.objs.size ≠ s.heap.objs.size := fun q => absurd (Heap.lt_size (x₃.ns.choose_spec.choose_spec.choose_spec.1)) (Nat.not_lt.mpr (Nat.le_of_eq q))
  have hTlt : s₁.heap.objs.size < s₃.heap.objs.size := let ⟨_, e⟩ := hT₃; Heap.lt_size e
  have hT₅ : s₅.heap.PlainList s₁.heap.objs.size #[] := (hT₃.at fun o e => up_push _ _ _ _ e).at fun o e => c₅.up _ _ nT e
  have hR₅ : s₅.heap.PlainList s₃.heap.objs.size #[] := hR₃.at fun o e => c₅.up _ _ nR e
  have hl₅ : LInts s₅.heap l ns := lints_ch (hl₃.up (up_push _ _)) x₄.ns c₅
  have hI0 : s.heap.objs.size ≤ s₁.heap.objs.size := Nat.le_of_lt (Heap.lt_size (y₁.toInCall.ns.choose_spec.choose_spec.choose_spec.1))
  have hlo : l < s.heap.objs.size := by obtain ⟨vs, i, _⟩ := hl; exact isList_lt i
  refine wpAny_execs_cons ?_
  refine told_loop (T := s₁.heap.objs.size) (R := s₃.heap.objs.size) ((hA.deeper _).le (by decide)) X x₅ (by rfl) (by rfl) (by rfl) hT₅ hR₅ (Nat.ne_of_lt hTlt) hI0 (Nat.le_trans hI0 (Nat.le_of_lt hTlt)) hl₅ (by omega) (Nat.ne_of_lt (Nat.lt_of_lt_of_le hlo hI0)) (Nat.ne_of_lt (Nat.lt_of_lt_of_le hlo (Nat.le_trans hI0 (Nat.le_of_lt hTlt)))) fun s₆ m cm x₆ eT eR told => ?_
  have X₆ := X.d x₆.ks.d
  have t16 : s₆.heap.get? 16 = some (tabObj #[]) := x₆.ks.get _ _ (by decide) e16
  have t127 : s₆.heap.get? 127 = some (tabObj #[]) := x₆.ks.get _ _ (by decide) e127
  have told' := told
  obtain ⟨ts, rs, p1, p2, z1, z2, H⟩ := told'
  have aR := Told.refsT (p := fun _ _ => True) z2 fun k hk => let ⟨_, r, _, _, _, e, _⟩ := H k hk; ⟨r, e, trivial⟩
  have kp₆ : Kp s.heap s₆.heap := fun b o e n => x₆.ks.get b o (fun q => n (by rw [q]; decide)) e
  have L143 : 143 ≤ s.heap.objs.size := X.1.size
  have nb16 : ¬ kB s.heap.objs.size 16 := by
    rintro (q | q | q | q)
    · revert q; decide
    · rw [← q] at L143; exact absurd L143 (by decide)
    · have := Nat.le_add_right_of_le (k := 2) L143; rw [← q] at this; exact absurd this (by decide)
    · revert q; decide
  refine wpAny_execs_cons ?_
  refine wpAny_Assign_Name ?_
  refine keys_comp (B0 := kB s.heap.objs.size) (L := s.heap.objs.size) (R := s₃.heap.objs.size) (rs := rs.toList) (hA.deeper _ |>.le (by decide)) X₆.1 ?b1 nb16 (.inl t16) x₆.ns eR (by simpa using p2.isList) (by simp; omega) (fun i v e => aR i v (by simpa using e)) fun D s₇ ys ch iD ly T₇ K₇ => ?_
  case b1 =>
    rintro b (rfl | rfl | rfl | rfl)
    · obtain ⟨ps, e, _⟩ := X₆.2; exact ⟨_, e⟩
    · obtain ⟨o, _, _, e, _⟩ := x₆.ns; exact ⟨o, e⟩
    · obtain ⟨o, e, _⟩ := x₆.cell (Str.ofString "keys") (s.heap.objs.size + 2) rfl; exact ⟨o, e⟩
    · exact ⟨_, t127⟩
  have n16L : s.heap.objs.size ≠ 16 := Nat.ne_of_gt (Nat.lt_of_lt_of_le (by decide : 16 < 143) L143)
  have ns₇ : s₇.heap.Ns s.heap.objs.size m := ns_at x₆.ns fun o e => ch.up _ _ n16L e
  have g₇ : Gl w s₇.heap := X₆.1.ch16 ch
  have t₇ : T13 s₇.heap := ch_t13 (tab_nocode t16) (by decide) (fun b o hb e => ch.up b o hb e) X₆.2
  have told₇ : Told s₇.heap _ _ ns ns.length := told.lk (lk_tab t16 fun b o hb e => ch.up b o hb e)
  have kp₇ : Kp s.heap s₇.heap := kp_but kp₆ (fun b o hb e => ch.up b o hb e) (.inr (by decide))
  have e127₇ : s₇.heap.get? 127 = some (tabObj #[]) := ch.up _ _ (by decide) t127
  have ic : s₇.heap.IsCell (s.heap.objs.size + 2) (cm "keys") := cell_at (x₆.cell (Str.ofString "keys") (s.heap.objs.size + 2) rfl) fun o e => ch.up _ _ (Nat.ne_of_gt (Nat.lt_of_lt_of_le (by decide : 16 < 143) (Nat.le_add_right_of_le L143))) e
  have sh₇ : Sh s s₇ := (Sh.ks x₆.ks).trans (Sh.ch ch)
  refine wpAny_storeName_cell rfl rfl rfl ic fun h₈ hc₈ hs₈ => ?_
  have u₈ : ∀ b o, b ≠ s.heap.objs.size + 2 → s₇.heap.get? b = some o → h₈.get? b = some o := fun b o hb e => (hs₈.2 b hb).trans e
  have ns₈ : h₈.Ns s.heap.objs.size m := ns₇.sameBut hs₈ (Nat.ne_of_lt (Nat.lt_add_of_pos_right (Nat.zero_lt_succ 1)))
  have lt2 : 143 ≤ s.heap.objs.size + 2 := Nat.le_add_right_of_le L143
  have g₈ : Gl w h₈ := g₇.lo fun b o hb _ e => u₈ b o (Nat.ne_of_lt (Nat.lt_of_lt_of_le hb lt2)) e
  have t₈ : T13 h₈ := ch_t13 (cell_nf ic) (Nat.ne_of_lt (Nat.lt_of_lt_of_le (by decide) lt2)) u₈ t₇
  have lk₈ : LK s₇.heap h₈ := LK.cell (s := s₇) (s' := { s₇ with heap := h₈ }) ic ⟨h₈, _, rfl, u₈⟩
  have told₈ := told₇.lk lk₈
  have kp₈ : Kp s.heap h₈ := kp_but kp₇ u₈ (.inl (Nat.le_add_right ..))
  have e127₈ : h₈.get? 127 = some (tabObj #[]) := u₈ _ _ (Nat.ne_of_lt (Nat.lt_of_lt_of_le (by decide) lt2)) e127₇
  have iD₈ := lk₈.list iD
  obtain ⟨p16, e16₇⟩ := T₇.tab
  have T₈ : T16 (kB s.heap.objs.size) h₈ := T₇.ag nb16 fun b o nb e => u₈ b o (fun q => nb (.inr (.inr (.inl q)))) e
  have K₈ : ∀ (k : Nat) (r : Addr), rs.toList[k]? = some (Value.ref r) → ∃ v, ys[k]? = some v ∧ KeyAt w (kB s.heap.objs.size) h₈ v r := fun k r e => by
    obtain ⟨v, ev, x⟩ := K₇ k r e
    exact ⟨v, ev, x.ag e16₇ fun b o nb _ e => u₈ b o (fun q => nb (.inr (.inr (.inl q)))) e⟩
  clear K₇ T₇ H told
  refine wpAny_execs_cons ?_
  refine wpAny_Return_some ?_
  refine List_ (spliced_more (wpAny_Name (wpAny_loadName_local rfl rfl ns₈ eT (spliced_more ?_))))
  refine call_kw ?_
  refine bname g₈ (v := .builtin "sorted") (by kernel_rfl) (by kernel_rfl) (by decide) rfl rfl rfl rfl ?_
  refine callWith_kw (spliced_more ?_)
  refine Call_ (bname g₈ (v := .type "range") (by kernel_rfl) (by kernel_rfl) (by decide) rfl rfl rfl rfl ?_)
  refine tcall (spliced_more ?_)
  refine Call_ (bname g₈ (v := .builtin "len") (by kernel_rfl) (by kernel_rfl) (by decide) rfl rfl rfl rfl ?_)
  refine callWith_builtin1 (spliced_more (wpAny_Name (wpAny_loadName_local rfl rfl ns₈ eR (spliced_none ?_))))
  have p2₈ := told₈
  obtain ⟨ts', rs', p1', p2', z1', z2', H'⟩ := p2₈
  have iR₈ := (lk₈.trans (LK.refl _)).plain ((lk_tab t16 fun b o hb e => ch.up b o hb e).plain p2)
  refine len_list iR₈.isList (by rw [z2]; omega) ?_
  refine spliced_none ?_
  refine call_range_1 ?_
  refine spliced_none ?_
  rw [z2]
  refine kws_cons ?_
  have g₉ : Gl w (h₈.push { cls := .type "range", data := .fields #[.int 0 (s₇.toks + 1 + 1), .int (ns.length : Nat) (s₇.toks + 1), .int 1 (s₇.toks + 1 + 1 + 1)] }) := g₈.keeps (up_push _ _)
  refine lam2_made g₉ (up_push _ _ _ _ e127₈) fun f c' pm ctv h₁₀ tk u₁₀ ef ec nc t127₁₀ => ?_
  refine kws_nil ?_
  have up₉ : Up h₈ (h₈.push { cls := .type "range", data := .fields #[.int 0 (s₇.toks + 1 + 1), .int (ns.length : Nat) (s₇.toks + 1), .int 1 (s₇.toks + 1 + 1 + 1)] }) := up_push _ _
  have e127₉ := up₉ _ _ e127₈
  have v₁₀ : ∀ b o, b ≠ 127 → h₈.get? b = some o → h₁₀.get? b = some o := fun b o hb e => u₁₀ b o hb (up₉ b o e)
  have lk₁₀ : LK h₈ h₁₀ := (LK.up up₉).trans (lk_tab e127₉ u₁₀)
  have ns₁₀ : h₁₀.Ns s.heap.objs.size m := ns_at ns₈ fun o e => v₁₀ _ _ (Nat.ne_of_gt (Nat.lt_of_lt_of_le (by decide : 127 < 143) L143)) e
  have told₁₀ := told₈.lk lk₁₀
  have kp₁₀ : Kp s.heap h₁₀ := kp_but (kp_but kp₈ (a := 127) (fun b o _ e => up₉ b o e) (.inr (by decide))) u₁₀ (.inr (by decide))
  have t₁₀ : T13 h₁₀ := ch_t13 (tab_nocode e127₉) (by decide) u₁₀ (t₈.up up₉)
  have hrs : rs.size = ns.length := z2
  have S : Sk w s.heap.objs.size ys (fun k => match rs.toList[k]? with | some (.ref r) => r | _ => 0) (fun k => rowN (ns.getD k 0)) (s.heap.objs.size + 2) D f c' pm ctv h₁₀ := by
    refine ⟨g₉.kp fun b o e n => u₁₀ b o (fun q => n (by rw [q]; decide)) e, t₁₀, ⟨m, ns₁₀⟩, L143, ?_, lk₁₀.list iD₈, T₈.ag nb16 fun b o nb e => v₁₀ b o (fun q => nb (.inr (.inr (.inr q)))) e, fun k hk => ?_, ef, ec, nc⟩
    · exact cell_at hc₈ fun o e => v₁₀ _ _ (Nat.ne_of_gt (Nat.lt_of_lt_of_le (by decide : 127 < 143) lt2)) e
    · have hk' : k < ns.length := by
        have : ys.length = rs.toList.length := ly
        simp at this; omega
      obtain ⟨t, r, j, tm, e1, e2, e3, e4, e5⟩ := H' k hk'
      obtain ⟨n1, g1⟩ := p2'
      obtain ⟨n2, g2⟩ := iR₈
      rw [g1] at g2
      injection g2 with g2
      injection g2 with _ _ g2
      injection g2 with g2 _
      subst g2
      have er : rs'.toList[k]? = some (.ref r) := by simpa using e2
      obtain ⟨v, ev, x⟩ := K₈ k r er
      have eg : ys.getD k .none = v := by rw [List.getD_eq_getElem?_getD, ev]; rfl
      have err : (match rs'.toList[k]? with | some (Value.ref r) => r | _ => 0) = r := by rw [er]
      refine ⟨?_, ?_, rowN_len _⟩
      · show KeyAt _ _ _ (ys.getD k .none) (match rs'.toList[k]? with | some (Value.ref r) => r | _ => 0)
        rw [eg, err]
        exact x.ag (u₈ _ _ (Nat.ne_of_lt (Nat.lt_of_lt_of_le (by decide) lt2)) e16₇) fun b o nb _ e => v₁₀ b o (fun q => nb (.inr (.inr (.inr q)))) e
      · show LInts _ (match rs'.toList[k]? with | some (Value.ref r) => r | _ => 0) _
        rw [err]
        exact lk₁₀.ints e4
  have rR : IsRange h₁₀ h₈.objs.size 0 (ns.length : Nat) 1 (s₇.toks + 1 + 1) (s₇.toks + 1) (s₇.toks + 1 + 1 + 1) := u₁₀ _ _ (Nat.ne_of_gt (Nat.lt_of_lt_of_le (by decide : 127 < 143) g₈.size)) (IsRange.new ..)
  refine told_sorted (A := A.deeper _) (n := ns.length) (hA.deeper _ |>.le (by decide)) S ns₁₀ rR (by simpa using ly.trans hrs) h3 h64 q1 q2 q3 fun O s₁₁ fO sh₁₁ jd₁₁ lO => ?_
  refine spliced_none ?_
  refine wpAny_newList ?_
  have up₁₂ : Up s₁₁.heap (s₁₁.heap.push (seqObj "list" #[Value.ref s₁.heap.objs.size, Value.ref O] 0)) := up_push _ _
  refine hQ _ _ s₁.heap.objs.size s₃.heap.objs.size O ?_ ?_ ?_ ?_ (lO.up up₁₂) (jd₁₁.t13.up up₁₂) ?_ ?_
  rotate_left 4
  · exact ⟨_, up₁₂ _ _ (jd₁₁.kp _ _ (by decide) (Ne.symm n16L) (v₁₀ _ _ (by decide) (u₈ _ _ (Nat.ne_of_lt (Nat.lt_of_lt_of_le (by decide) lt2)) e16₇)))⟩
  · obtain ⟨p127, e127'⟩ := t127₁₀
    exact ⟨_, up₁₂ _ _ (jd₁₁.kp _ _ (by decide) (Nat.ne_of_lt (Nat.lt_of_lt_of_le (by decide) L143)) e127')⟩
  · exact sh₇.trans (Sh.trans (s' := { s₇ with heap := h₁₀, toks := tk }) ⟨_, _, rfl⟩ (sh₁₁.trans ⟨_, _, rfl⟩))
  · exact kp_but (a := 127) (kp_jd kp₁₀ jd₁₁ (Nat.le_refl _)) (fun b o _ e => up₁₂ b o e) (.inr (by decide))
  · exact listIs (Heap.get?_push_size _ rfl)
  · exact (told₁₀.lk (lk_jd t₁₀ ns₁₀ jd₁₁)).lk (LK.up up₁₂)
end
end Mine
end

section
open PySem PySem.W PySem.Calls PyProof.Rows PySem.Spec PySem.SeqAt
set_option maxRecDepth 100000
set_option linter.unusedVariables false
namespace Mine
noncomputable def ltT (rD : Nat → List Int) (i j : Nat) : Bool := if rD i = rD j then decide (i < j) else lexLt (rD i) (rD j)
theorem katTups_of {h : Heap} : ∀ (vs fs : List Value), vs.length = fs.length → (∀ (k : Nat) v f, vs[k]? = some v → fs[k]? = some f → ∃ a o xs n, v = .ref a ∧ h.get? a = some o ∧ o.cls = .type "tuple" ∧ o.data = .seq xs n ∧ xs[0]? = some f) → KatTups h vs fs
  | [], [], _, _ => .nil
  | v :: vs, f :: fs, hl, H => by
    obtain ⟨a, o, xs, n, rfl, e1, e2, e3, e4⟩ := H 0 v f rfl rfl
    exact .cons e1 e2 e3 e4 (katTups_of vs fs (by simpa using hl) fun k v f h1 h2 => H (k + 1) v f (by simpa using h1) (by simpa using h2))
  | [], _ :: _, hl, _ => by simp at hl
  | _ :: _, [], hl, _ => by simp at hl
section
variable {w : World} {A : Around} {E : Value → Shared → Prop} {s : Shared}
theorem due_sorted {L R : Addr} {rs : List Value} {n : Nat} {m : Str → Option Value} {rD : Nat → List Int} {Q : Value → Shared → Prop} (hA : Ar 8 A) (t13 : T13 s.heap) (hn : s.heap.Ns L m) (hL : 143 ≤ L) (hR : s.heap.IsList R rs.toArray) (hz : rs.length = n) (h3 : 3 ≤ n) (h64 : n < 64)
    (tups : ∀ k < n, ∃ p r tr, rs[k]? = some (.ref p) ∧ isTup s.heap p #[.ref r, .int (k : Nat) tr] ∧ LInts s.heap r (rD k)) (hlen : ∀ k, (rD k).length = 5) (q1 : ltT rD 1 0 = false) (q2 : ltT rD 2 1 = true) (q3 : ltT rD 0 1 = true)
    (hQ : ∀ D s', s.heap.get? D = none → Sh s s' → Jd L m s.heap s'.heap → s'.heap.IsList D ((ksRun (ltT rD) (kas_sort n)).toList.map (fun i => rs.getD i .none)).toArray → Q (.ref D) s') :
    wpAny (model prg w) A (PySem.call (.builtin "sorted") [.ref R]) Q E s := by
  refine kat_sorted (fr0 hn) (allN_news _ _) hR (by omega) (by omega) fun D e1 h' F' N' hold => ?_
  have gD : h'.get? D = some (seqObj "list" #[] e1) := (N' (D, _) (.head _)).1
  have nD : D ≠ L := (N' (D, _) (.head _)).2.1
  have kept : ∀ b o, b ≠ L → s.heap.get? b = some o → h'.get? b = some o := fun b o hb e => (N' (b, o) (.tail _ (allN_mem.mpr ⟨hb, e⟩))).1
  have fD : s.heap.get? D = none := by
    cases q : s.heap.get? D with
    | none => rfl
    | some o => exact absurd (hold (D, o) (allN_mem.mpr ⟨nD, q⟩)) (Nat.lt_irrefl _)
  have hL13 : (113 : Nat) ≠ L := Nat.ne_of_lt (Nat.lt_of_lt_of_le (by decide) hL)
  have hD113 : (113 : Nat) < D := by
    obtain ⟨ps, e, _⟩ := t13
    exact hold (113, _) (allN_mem.mpr ⟨hL13, e⟩)
  have seqKept : ∀ b o, s.heap.get? b = some o → (∃ vs n, o.data = .seq vs n) → h'.get? b = some o := fun b o e d => kept b o (by
    rintro rfl
    obtain ⟨o', es, ep, e', d', _⟩ := hn
    rw [e] at e'; cases e'
    obtain ⟨vs, n, d⟩ := d
    rw [d] at d'; cases d') e
  have tups' : ∀ k < n, ∃ p r tr, rs[k]? = some (.ref p) ∧ isTup h' p #[.ref r, .int (k : Nat) tr] ∧ LInts h' r (rD k) := fun k hk => by
    obtain ⟨p, r, tr, e1, ⟨n1, e2⟩, ⟨vs, ⟨o, e3, c3, n3, d3⟩, i3⟩⟩ := tups k hk
    exact ⟨p, r, tr, e1, ⟨n1, seqKept _ _ e2 ⟨_, _, rfl⟩⟩, vs, ⟨o, seqKept _ _ e3 ⟨_, _, d3⟩, c3, n3, d3⟩, i3⟩
  have jd0 : Jd L m s.heap h' := ⟨fun b o _ n2 e => kept b o n2 e, F'.ns, t13_but (ns_nf hn) (ns_nf hn) hL13 hL13 (fun b o _ n2 e => kept b o n2 e) t13⟩
  obtain ⟨fs, hfs⟩ : ∃ fs : List Value, fs = (List.range n).map fun k => match rs[k]? with | some (.ref p) => (match h'.get? p with | some o => (match o.data with | .seq xs _ => xs.getD 0 .none | _ => .none) | none => .none) | _ => .none := ⟨_, rfl⟩
  have fsl : fs.length = n := by rw [hfs]; simp
  have fsk : ∀ k, k < n → ∃ p r tr n1, rs[k]? = some (.ref p) ∧ h'.get? p = some { cls := .type "tuple", data := .seq #[.ref r, .int (k : Nat) tr] n1 } ∧ LInts h' r (rD k) ∧ fs[k]? = some (.ref r) := fun k hk => by
    obtain ⟨p, r, tr, e1, ⟨n1, e2⟩, e3⟩ := tups' k hk
    refine ⟨p, r, tr, n1, e1, e2, e3, ?_⟩
    rw [hfs, List.getElem?_map, List.getElem?_range hk]
    simp only [Option.map_some]
    rw [e1]
    simp only [e2]
    rfl
  refine kat_kind (fs := fs) (T := .type "list") (katTups_of rs fs (by omega) fun k v f h1 h2 => ?_) (by omega) (fun v hv => ?_) (by rfl) ?_
  · have hk : k < n := by rw [← hz]; exact (List.getElem?_eq_some_iff.mp h1).1
    obtain ⟨p, r, tr, n1, e1, e2, e3, e4⟩ := fsk k hk
    rw [e1] at h1; cases h1
    rw [e4] at h2; cases h2
    exact ⟨p, _, _, n1, rfl, e2, rfl, rfl, rfl⟩
  · obtain ⟨k, hk, rfl⟩ := List.getElem_of_mem hv
    obtain ⟨p, r, tr, n1, e1, e2, ⟨vs, ⟨o, e3, c3, _⟩, _⟩, e4⟩ := fsk k (by omega)
    rw [List.getElem?_eq_getElem hk] at e4
    injection e4 with e4
    rw [e4]
    intro A Q E s k q
    exact wpAny_typeOf_ref (k _ _ e3) (by rw [c3]; exact q)
  · rw [show (Value.type "list" != Value.type "tuple") = true from rfl, hz]
    have hon := ks_sort (lt := ltT rD) h3 q1 q2 q3
    have hfin := ksOn_run _ hon
    refine ksOn_wp (lt := ltT rD) (P := KsP n) (fun s'' => s'' = { s with heap := h' }) ?_ _ _ hon rfl ?_
    · rintro i j C s4 ⟨hi, hj, hne⟩ rfl hC
      obtain ⟨p, r, tr, n1, e1, e2, e3, _⟩ := fsk i hi
      obtain ⟨p', r', tr', n1', e1', e2', e3', _⟩ := fsk j hj
      have g1 : rs.getD i Value.none = .ref p := by rw [List.getD_eq_getElem?_getD, e1]; rfl
      have g2 : rs.getD j Value.none = .ref p' := by rw [List.getD_eq_getElem?_getD, e1']; rfl
      show wpAny (model prg w) A.in1.in1 (keyLt' (tuples' true) (rs.getD i Value.none) (rs.getD j Value.none)) C (fun _ _ => False) { s with heap := h' }
      rw [g1, g2]
      have hu : A.in1.in1.units + 64 < cLine := (hA.in1.in1.le (by decide : 0 ≤ 6)).unit
      have hC' := hC _ rfl
      refine kat_lt (s := { s with heap := h' }) e2 rfl e2' rfl ?_
      refine kat_cons (eq_rows (s := { s with heap := h' }) hu e3 e3' ?_)
      by_cases hq : rD i = rD j
      · rw [decide_eq_true hq]
        have lt1 : ltT rD i j = decide (i < j) := by unfold ltT; rw [if_pos hq]
        rw [lt1] at hC'
        refine kat_yes (kat_cons (wpAny_eqBool_int ?_))
        rw [show (((i : Nat) : Int) == ((j : Nat) : Int)) = false by simp; omega]
        refine kat_no (kat_one _ _ (PyProof.Rows.lt_int ?_))
        show C (decide (((i : Nat) : Int) < ((j : Nat) : Int))) _
        rw [show decide (((i : Nat) : Int) < ((j : Nat) : Int)) = decide (i < j) from decide_eq_decide.mpr (by omega)]
        exact hC'
      · rw [decide_eq_false hq]
        have lt1 : ltT rD i j = lexLt (rD i) (rD j) := by unfold ltT; rw [if_neg hq]
        rw [lt1] at hC'
        exact kat_no (one_lt (s := { s with heap := h' }) hu e3 e3' (by rw [hlen, hlen]) hC')
    · rintro s5 rfl
      obtain ⟨g, u, hg⟩ := allN_upd (h := h') nD gD
      refine KasFin.intro (s := { s with heap := h' }) (fr0 F'.ns) (allN_news _ _) u fun h7 c7 F7 N7 => ?_
      obtain ⟨g71, g72⟩ := hg _ _ N7
      refine hQ D _ fD ⟨_, _, rfl⟩ (jd0.upd (seq_nocode gD) fD (Nat.ne_of_lt hD113) hL13 g72 F7.ns) (listIs g71)
end
end Mine
end

section
open PySem PySem.W PySem.Calls PyProof.Rows PySem.Spec PySem.SeqAt
set_option maxRecDepth 100000
set_option linter.unusedVariables false
namespace Mine
section
variable {w : World} {A : Around} {E : Value → Shared → Prop} {s : Shared} {env : Env}
/-- `[b for a, b in it]` over a list of pairs -/
theorem comp_pair {iter : PySem.Expr} {x x₂ : Str} {px px₂ tp pe : Pos} {tk : Nat} {scope : Scope} {pos : Pos} {Q : Value → Shared → Prop}
    (hclos : closureFor scope env = pure []) (hcell : ∀ y ∈ scope.names, y.2 ≠ .cell) (hkind : scope.kind = .function)
    (hnames : ∀ y ∈ scope.names, y.2 = .local → scope.names.lookup y.1 = some .local) (hx : scope.names.lookup x = some .local) (hx₂ : scope.names.lookup x₂ = some .local) (hxx : x₂ ≠ x) (hd : (x₂ == ("__debug__" : Str)) = false) (hh : A.handled = none)
    (h : wpAny (model prg w) A (eval iter env) (fun v s₁ => ∃ D, ∃ vs : List Value, ∃ snd : Nat → Value, v = .ref D ∧ s₁.heap.IsList D vs.toArray ∧ vs.length ≤ 1000 ∧ (∀ (i : Nat) v, vs[i]? = some v → ∃ t v1, v = .ref t ∧ IsTup s₁.heap t #[v1, snd i]) ∧
      ∀ O s', Keeps s₁ s' → s'.heap.IsList O ((List.range vs.length).map snd).toArray → Q (.ref O) s') E s)
    (hs : ∀ x, foldedSetIterable iter env x = pure x := by intro _; rfl) :
    wpAny (model prg w) A (eval (.ListComp (.Name x₂ pe) [⟨.Tuple [.Name x px, .Name x₂ px₂] tk tp, iter, [], 0⟩] scope pos) env) Q E s := by
  rw [eval_ListComp]
  refine wpAny_comprehension_free (use := none) rfl hs hclos hkind hnames (wpAny_mono h (fun xv s₁ h₁ => ?_) fun _ _ e => e)
  obtain ⟨D, vs, snd, rfl, hl, hn, tups, hQ⟩ := h₁
  refine wpAny_pyIter_list hl ?_
  have W := Walks.list (prog := prg) (w := w) hh s₁.heap.objs.size D (Nat.ne_of_lt (isList_lt hl)) vs.toArray
  simp only [List.size_toArray, List.getElem?_toArray] at W
  refine wpAny_newObj_type (wpAny_newFunctionEnv hcell (by intro y hy; simp at hy) (fun h₁ hns₁ hsb₁ => ?_) hkind)
  dsimp only at hns₁ hsb₁ ⊢
  have hDlt : D < s₁.heap.objs.size := isList_lt hl
  generalize hI : s₁.heap.objs.size = I at *
  generalize hH1 : s₁.heap.push _ = H1 at *
  have zD : H1.objs.size = I + 1 := by rw [← hH1, Heap.size_push, hI]
  have it0 : H1.IsListIter I D 0 := ⟨_, hH1 ▸ hI ▸ Heap.get?_push_size _ rfl, rfl, rfl⟩
  generalize hH2 : H1.push { cls := .type "list", dict := none, data := .seq ([] : List Value).toArray } = H2 at hns₁ hsb₁ ⊢
  have zC : H2.objs.size = I + 2 := by rw [← hH2, Heap.size_push, zD]
  have u1 : Up s₁.heap H1 := hH1 ▸ up_push _ _
  rw [zC] at hns₁ hsb₁ ⊢
  rw [zD]
  have old : ∀ b o, H1.get? b = some o → h₁.get? b = some o := fun b o e => by
    have l := Heap.lt_size e
    rw [zD] at l
    exact hsb₁.extBut b o (Nat.ne_of_lt (Nat.lt_succ_of_lt l)) (Heap.get?_push_of_some _ (hH2 ▸ Heap.get?_push_of_some _ e))
  have l0 : h₁.IsList (I + 1) #[] := ⟨_, hsb₁.extBut _ _ (Nat.ne_of_lt (Nat.lt_succ_self _)) (Heap.get?_push_of_some _ (hH2 ▸ zD ▸ Heap.get?_push_size _ rfl)), rfl, _, rfl⟩
  have it1 : h₁.IsListIter I D 0 := let ⟨o, e, r⟩ := it0; ⟨o, old _ _ e, r⟩
  have hl1 : h₁.IsList D vs.toArray := isList_at hl fun o e => old _ _ (u1 _ _ e)
  have k0 : Keeps s₁ { s₁ with heap := h₁, toks := s₁.toks } := ⟨_, _, rfl, fun b o e => old _ _ (u1 _ _ e)⟩
  have nIC : I ≠ I + 2 := by omega
  have nDC : I + 1 ≠ I + 2 := by omega
  have nDI : I + 1 ≠ I := by omega
  have hDI : D ≠ I := Nat.ne_of_lt hDlt
  have hDD : D ≠ I + 1 := Nat.ne_of_lt (Nat.lt_succ_of_lt hDlt)
  have hDC : D ≠ I + 2 := Nat.ne_of_lt (Nat.lt_succ_of_lt (Nat.lt_succ_of_lt hDlt))
  have loop : codeAny (model prg w) A (Code.compLoop (.ListComp (.Name x₂ pe) [⟨.Tuple [.Name x px, .Name x₂ px₂] tk tp, iter, [], 0⟩] scope pos) 0 (.ref I) (.ref (I + 1)) (compEnvC scope [] (I + 2) env)) (compPost (model prg w) A E none Q (.ref (I + 1)) (I + 2)) { s₁ with heap := h₁, toks := s₁.toks } := by
    refine LCp.codeAny_compLoop_pair (fun k s' => ∃ i m, i + k = vs.length ∧ Keeps s₁ s' ∧ I + 3 ≤ s'.heap.objs.size ∧ s'.heap.IsListIter I D i ∧ s'.heap.IsList D vs.toArray ∧ s'.heap.IsList (I + 1) ((List.range i).map snd).toArray ∧ s'.heap.Ns (I + 2) m) ?_ vs.length
      ⟨0, _, by omega, k0, Nat.succ_le_of_lt hns₁.lt, it1, hl1, l0, hns₁⟩
    rintro k s₂ ⟨i, m, hk, kp, hz, it, hl2, il, hm⟩
    cases k with
    | zero =>
      obtain rfl : i = vs.length := by omega
      refine W.done _ _ _ ⟨it, hl2⟩ fun h' tk' kk => ?_
      have c1 : Ch I s₂ { s₂ with heap := h', toks := tk' } := ⟨_, _, rfl, fun b o hb e => kk b o (by simpa using hb) e⟩
      refine ⟨m, ns_at hm fun o e => c1.up _ _ nIC.symm e, fun h'' hs'' => ?_⟩
      have c2 : Ch (I + 2) ({ s₂ with heap := h', toks := tk' } : Shared) { s₂ with heap := h'', toks := tk' } := ⟨_, _, rfl, fun b o hb e => (hs''.2 b hb).trans e⟩
      exact hQ _ _ (keeps_new (keeps_new kp c1 (Nat.le_of_eq hI)) c2 (by omega)) (isList_at il fun o e => c2.up _ _ nDC (c1.up _ _ nDI e))
    | succ k =>
      refine W.item i _ _ _ (by omega) ⟨it, hl2⟩ fun v h' tk' pv st' kk => ?_
      have c1 : Ch I s₂ { s₂ with heap := h', toks := tk' } := ⟨_, _, rfl, fun b o hb e => kk b o (by simpa using hb) e⟩
      obtain ⟨it', hl'⟩ := st'
      obtain ⟨t, v1, rfl, ht⟩ := tups i v pv
      have kp1 := keeps_new kp c1 (Nat.le_of_eq hI)
      have ht' : IsTup h' t #[v1, snd i] := ht.keeps (kup kp1)
      refine wpAny_letOwnedTupleGo_listiter it' ?_
      refine assign_Tuple_tuple (s := { s₂ with heap := h', toks := tk' }) hh ht' rfl rfl fun h₅ he => ?_
      have he' : Up h' h₅ := fun b o e => he b o (Nat.ne_of_lt (Heap.lt_size e)) e
      have m1 : h'.Ns (I + 2) m := ns_at hm fun o e => c1.up _ _ nIC.symm e
      refine assignInOrder_cons (wpAny_assign_Name (wpAny_storeName_local (lookup_relabel_local hx) (m1.keeps he') (fun h₆ hn₆ hs₆ => ?_) (by simp [compEnvC, relabel, hkind])))
      refine assignInOrder_cons (wpAny_assign_Name (wpAny_storeName_local (lookup_relabel_local hx₂) hn₆ (fun h₇ hn₇ hs₇ => ?_) (by simp [compEnvC, relabel, hkind])))
      refine assignInOrder_nil ?_
      have up7 : ∀ b o, b ≠ I + 2 → h'.get? b = some o → h₇.get? b = some o := fun b o hb e => (hs₇.2 b hb).trans ((hs₆.2 b hb).trans (he' b o e))
      have c7 : ∀ tk'', Ch (I + 2) ({ s₂ with heap := h', toks := tk' } : Shared) { s₂ with heap := h₇, toks := tk'' } := fun tk'' => ⟨_, _, rfl, up7⟩
      refine wpAny_Name (wpAny_loadName_local (v := snd i) (show (compEnvC scope [] (I + 2) env).scope.kind = .function from hkind) (lookup_relabel_local hx₂) hn₇ (by simp) ?_) hd
      have l7 : h₇.IsList (I + 1) ((List.range i).map snd).toArray := isList_at il fun o e => up7 _ _ nDC (c1.up _ _ nDI e)
      have kp7 := keeps_new kp1 (c7 (tk' + 1 + 1)) (by omega)
      refine wpAny_list_append l7 (fun h8 l8 hs8 => ?_) (by rw [List.size_toArray, List.length_map, List.length_range, sizeLine_eq]; omega)
      have c8 : Ch (I + 1) ({ s₂ with heap := h₇, toks := tk' + 1 + 1 } : Shared) { s₂ with heap := h8, toks := tk' + 1 + 1 } := ⟨h8, _, rfl, fun b o hb e => (hs8.2 b hb).trans e⟩
      have up8 : ∀ b o, b ≠ I + 2 → b ≠ I + 1 → h'.get? b = some o → h8.get? b = some o := fun b o n1 n2 e => c8.up _ _ n2 (up7 _ _ n1 e)
      have m8 := ns_at hn₇ fun o e => c8.up _ _ nDC.symm e
      refine ⟨k, by omega, i + 1, _, by omega, keeps_new kp7 c8 (by omega), Nat.succ_le_of_lt m8.lt, ?_, ?_, ?_, m8⟩
      · obtain ⟨o, e, r⟩ := it'
        exact ⟨o, up8 _ _ nIC nDI.symm e, r⟩
      · exact isList_at hl' fun o e => up8 _ _ hDC hDD e
      · rw [List.range_succ, List.map_append]
        have : h8.IsList (I + 1) ((List.range i).map snd ++ [snd i]).toArray := by simpa using l8
        exact this
  refine codeAny_compStart_list ?_ ?_
  · exact loop
  · exact W.self 0 _ _ _ ⟨it1, hl1⟩ loop
end
end Mine
end

section
open PySem PySem.W PySem.Calls PyProof.Rows PySem.Spec PySem.SeqAt
set_option maxRecDepth 100000
set_option linter.unusedVariables false
namespace Mine
inductive LitStrs : List PySem.Expr → List (List Nat) → Prop
  | nil : LitStrs [] []
  | cons (x : Str) (c : List Nat) (hx : x = ⟨c.toArray⟩) (k : Nat) (pos : Pos) {es xs} : LitStrs es xs → LitStrs (.Constant (.str x) k pos :: es) (c :: xs)
noncomputable def StrsV (vs : List Value) (xs : List (List Nat)) : Prop := vs.length = xs.length ∧ ∀ (i : Nat) x, xs[i]? = some x → ∃ t, vs[i]? = some (.str ⟨x.toArray⟩ t)
theorem spliced_strs {M : Model} {A : Around} {E : Value → Shared → Prop} {env : Env} {pos : Pos} : ∀ {elts : List PySem.Expr} {xs : List (List Nat)} (_ : LitStrs elts xs) (s : Shared) (Q : List Value → Shared → Prop),
    (∀ vs tk, StrsV vs xs → Q vs { s with toks := tk }) → wpAny M A (spliced (backTo pos (starEach elts env))) Q E s := by
  intro elts xs l
  induction l with
  | nil => intro s Q h; exact spliced_none (h [] s.toks ⟨rfl, fun i x e => by simp at e⟩)
  | cons x c hx k p _ ih =>
    intro s Q h
    refine spliced_more (wpAny_Constant_str (ih _ _ fun vs tk hv => ?_))
    refine h _ tk ⟨by simp [hv.1], fun i x e => ?_⟩
    cases i with
    | zero => simp at e; subst e; exact ⟨_, by rw [hx]; rfl⟩
    | succ i => simpa using hv.2 i x (by simpa using e)
noncomputable def sndOf (h : Heap) (v : Value) : Value := match v with
  | .ref t => (match h.get? t with | some o => (match o.data with | .seq xs _ => xs.getD 1 .none | _ => .none) | none => .none)
  | _ => .none
theorem sndOf_tup {h : Heap} {t : Addr} {a b : Value} (x : isTup h t #[a, b]) : sndOf h (.ref t) = b := by
  obtain ⟨n, e⟩ := x
  unfold sndOf
  simp only [e]
  rfl
theorem ints_of_get : ∀ {ys : List Value} {ns : List Int}, ys.length = ns.length → (∀ i, i < ns.length → ∃ t, ys[i]? = some (.int (ns.getD i 0) t)) → IntsAre ys ns
  | [], [], _, _ => .nil
  | y :: ys, n :: ns, hl, H => by
    obtain ⟨t, e⟩ := H 0 (by simp)
    have e : y = .int n t := by simpa using e
    subst e
    exact .cons _ _ (ints_of_get (by simpa using hl) fun i hi => by
      obtain ⟨t, e⟩ := H (i + 1) (by simpa using hi)
      exact ⟨t, by simpa using e⟩)
  | [], _ :: _, hl, _ => by simp at hl
  | _ :: _, [], hl, _ => by simp at hl
noncomputable def lettersE : List PySem.Expr := match (bodyAt 16).getD 0 (.Pass default) with | .Assign _ (.List es _) _ => es | _ => []
theorem letters_lit : LitStrs lettersE lettersN := by
  show LitStrs [_, _, _, _, _, _, _, _, _, _, _, _, _, _] [_, _, _, _, _, _, _, _, _, _, _, _, _, _]
  repeat (first | exact .nil | refine .cons _ _ (by kernel_rfl) _ _ ?_)
noncomputable def rowK (ns : List Int) (k : Nat) : List Int := rowD (wordN (ns.getD k 0))
section
variable {w : World} {A : Around} {E : Value → Shared → Prop} {s : Shared} {Q : Value → Shared → Prop} {env : Env}
theorem list_strs {env : Env} {pos : Pos} {elts : List PySem.Expr} {xs : List (List Nat)} {Q : Value → Shared → Prop} (l : LitStrs elts xs) (hn : xs.length ≤ 1000)
    (h : ∀ vs tk, StrsV vs xs → Q (.ref s.heap.objs.size) { s with heap := s.heap.push { cls := .type "list", data := .seq vs.toArray }, toks := tk }) :
    wpAny (model prg w) A (eval (.List elts pos) env) Q E s := by
  refine List_ (spliced_strs l _ _ fun vs tk hv => ?_)
  refine wpAny_newObj_type (h vs tk hv) ?_
  show vs.toArray.size ≤ sizeLine
  rw [List.size_toArray, hv.1, sizeLine_eq]; omega
theorem due_spec {l : Addr} {ns : List Int} (hA : Ar 20 A) (X : TG w s.heap) (hl : LInts s.heap l ns) (h3 : 3 ≤ ns.length) (h64 : ns.length < 64)
    (q1 : ltT (rowK ns) 1 0 = false) (q2 : ltT (rowK ns) 2 1 = true) (q3 : ltT (rowK ns) 0 1 = true)
    (hQ : ∀ D s' T R O, Sh s s' → (∀ b o, b ≠ 113 → s.heap.get? b = some o → s'.heap.get? b = some o) → T13 s'.heap → s'.heap.IsList D #[.ref T, .ref O] → Due s'.heap T R ns ns.length → LInts s'.heap O (orderOf (ltT (rowK ns)) ns.length) → Q (.ref D) s') :
    wpAny (model prg w) A (PySem.call (.ref 135) [.ref l]) Q E s := by
  refine enter (body := bodyAt 16) hA X.1 rfl rfl rfl rfl rfl rfl rfl rfl rfl (fun s₁ y₁ => ?_)
  have k₁ : Keeps s s₁ := y₁.done
  have x₁ : Fn s (dueE s.heap.objs.size) _ _ s₁ := Fn.of y₁ (Nat.le_trans (by decide) X.1.size)
  have hl₁ : LInts s₁.heap l ns := hl.up (kup k₁)
  have hlo : l < s.heap.objs.size := by obtain ⟨vs, i, _⟩ := hl; exact isList_lt i
  refine wpAny_execs_cons ?_
  refine wpAny_Assign_Name ?_
  refine list_strs (xs := lettersN) ?lits ?len ?_
  case lits => exact letters_lit
  case len => decide
  intro vs tk hv
  have hL₁ : LStr (s₁.heap.push { cls := .type "list", data := .seq vs.toArray }) s₁.heap.objs.size lettersN := ⟨vs, ⟨_, Heap.get?_push_size _ rfl, rfl, _, rfl⟩, hv⟩
  have k₂ : Keeps s₁ { s₁ with heap := s₁.heap.push { cls := .type "list", data := .seq vs.toArray }, toks := tk } := ⟨_, _, rfl, up_push _ _⟩
  have hltl : s₁.heap.objs.size ≠ l := Nat.ne_of_gt (Nat.lt_of_lt_of_le hlo x₁.lo)
  generalize s₁.heap.objs.size = lt at *
  have x₂ := x₁.to (KS.of_keeps k₂)
  refine x₂.stc rfl rfl rfl fun s₃ x₃ c₃ => ?_
  have lk₃ : LK s₁.heap s₃.heap := (LK.up (kup k₂)).trans ((KD.ch1 c₃).lk x₂)
  have hL₃ : LStr s₃.heap lt lettersN := let ⟨vs, i, q⟩ := hL₁; ⟨vs, ((KD.ch1 c₃).lk x₂).list i, q⟩
  refine wpAny_execs_cons ?_
  refine wpAny_Assign_Name ?_
  refine List_ (spliced_none ?_)
  refine wpAny_newList ?_ (by rw [sizeLine_eq]; exact Nat.zero_le _)
  have hT₃ : (s₃.heap.push (seqObj "list" #[] 0)).PlainList s₃.heap.objs.size #[] := ⟨0, Heap.get?_push_size _ rfl⟩
  have k₄ : Keeps s₃ { s₃ with heap := s₃.heap.push (seqObj "list" #[] 0) } := ⟨_, _, rfl, up_push _ _⟩
  have h0T : s.heap.objs.size ≤ s₃.heap.objs.size := x₃.lo
  have htT : lt ≠ s₃.heap.objs.size := by obtain ⟨_, i, _⟩ := hL₃; exact Nat.ne_of_lt (isList_lt i)
  have hlT : l ≠ s₃.heap.objs.size := Nat.ne_of_lt (Nat.lt_of_lt_of_le hlo h0T)
  generalize s₃.heap.objs.size = T at *
  have x₄ := x₃.to (KS.of_keeps k₄)
  refine x₄.st rfl rfl fun s₅ x₅ c₅ => ?_
  have lk₅ : LK s₃.heap s₅.heap := (LK.up (kup k₄)).trans ((KD.ch0 c₅).lk x₄)
  have hT₅ : s₅.heap.PlainList T #[] := ((KD.ch0 c₅).lk x₄).plain hT₃
  refine wpAny_execs_cons ?_
  refine wpAny_Assign_Name ?_
  refine List_ (spliced_none ?_)
  refine wpAny_newList ?_ (by rw [sizeLine_eq]; exact Nat.zero_le _)
  have hR₅ : (s₅.heap.push (seqObj "list" #[] 0)).PlainList s₅.heap.objs.size #[] := ⟨0, Heap.get?_push_size _ rfl⟩
  have k₆ : Keeps s₅ { s₅ with heap := s₅.heap.push (seqObj "list" #[] 0) } := ⟨_, _, rfl, up_push _ _⟩
  have h0R : s.heap.objs.size ≤ s₅.heap.objs.size := x₅.lo
  have hTR : T ≠ s₅.heap.objs.size := Nat.ne_of_lt (isList_lt hT₅.isList)
  have htR : lt ≠ s₅.heap.objs.size := by obtain ⟨_, i, _⟩ := hL₃; exact Nat.ne_of_lt (isList_lt (lk₅.list i))
  have hlR : l ≠ s₅.heap.objs.size := Nat.ne_of_lt (Nat.lt_of_lt_of_le hlo h0R)
  generalize s₅.heap.objs.size = R at *
  have x₆ := x₅.to (KS.of_keeps k₆)
  refine x₆.st rfl rfl fun s₇ x₇ c₇ => ?_
  have lk₇ : LK s₅.heap s₇.heap := (LK.up (kup k₆)).trans ((KD.ch0 c₇).lk x₆)
  have hR₇ : s₇.heap.PlainList R #[] := ((KD.ch0 c₇).lk x₆).plain hR₅
  have lkA : LK s₁.heap s₇.heap := lk₃.trans (lk₅.trans lk₇)
  refine wpAny_execs_cons ?_
  refine due_loop (lt := lt) (T := T) (R := R) (ns := ns) ((hA.deeper _).le (by decide)) X x₇ (by rfl) (by rfl) (let ⟨vs, i, q⟩ := hL₃; ⟨vs, (lk₅.trans lk₇).list i, q⟩) (by rfl) (by rfl) (lk₇.plain hT₅) hR₇ hTR h0T h0R (lkA.ints hl₁) (by omega) hlT hlR htT htR fun s₈ m cm x₈ eT eR due => ?_
  have X₈ := X.d x₈.ks.d
  have due' := due
  obtain ⟨ts, rs, p1, p2, z1, z2, H⟩ := due'
  have L143 : 143 ≤ s.heap.objs.size := X.1.size
  refine wpAny_execs_cons ?_
  refine wpAny_Return_some ?_
  refine List_ (spliced_more (x₈.ld rfl rfl eT (spliced_more ?_)))
  refine comp_pair (by kernel_rfl) (by decide) rfl (by decide) (by rfl) (by rfl) (by decide) (by decide) (hA.deeper _).hh ?_
  refine Call_ (bname X₈.1 (v := .builtin "sorted") (by kernel_rfl) (by kernel_rfl) (by decide) rfl rfl rfl rfl ?_)
  refine callWith_builtin1 (spliced_more (x₈.ld rfl rfl eR (spliced_none ?_)))
  have hzr : rs.toList.length = ns.length := by simpa using z2
  have tups : ∀ k < ns.length, ∃ p r tr, rs.toList[k]? = some (.ref p) ∧ isTup s₈.heap p #[.ref r, .int (k : Nat) tr] ∧ LInts s₈.heap r (rowK ns k) := fun k hk => by
    obtain ⟨t, r, p, tm, tr, e1, e2, e3, e4, e5⟩ := H k hk
    exact ⟨p, r, tr, by simpa using e2, e4, e5⟩
  refine due_sorted (rD := rowK ns) (n := ns.length) ((hA.deeper _).le (by decide)) X₈.2 x₈.ns L143 (rs := rs.toList) (by simpa using p2.isList) hzr h3 h64 tups (fun k => rowD_len _) q1 q2 q3 fun D s₉ fD sh₉ jd₉ lD => ?_
  have lk₉ := lk_jd X₈.2 x₈.ns jd₉
  have hon := ks_sort (lt := ltT (rowK ns)) h3 q1 q2 q3
  have hfin := ksOn_run _ hon
  obtain ⟨perm, hperm⟩ : ∃ perm : List Nat, perm = (ksRun (ltT (rowK ns)) (kas_sort ns.length)).toList := ⟨_, rfl⟩
  rw [← hperm] at lD
  have hpl : perm.length = ns.length := by rw [hperm]; simpa using hfin.1
  have hpi : ∀ i, i < ns.length → perm.getD i 0 < ns.length := fun i hi => by
    have := hfin.2.1 i hi
    rw [hperm]
    simpa [Array.getD, List.getD, hi, hfin.1] using this
  have vget : ∀ i, i < ns.length → ∃ p r tr, (perm.map fun i => rs.toList.getD i .none)[i]? = some (.ref p) ∧ isTup s₉.heap p #[.ref r, .int (perm.getD i 0 : Nat) tr] := fun i hi => by
    obtain ⟨p, r, tr, e1, ⟨n1, e2⟩, _⟩ := tups _ (hpi i hi)
    refine ⟨p, r, tr, ?_, n1, lk₉ _ _ e2 ⟨_, _, rfl⟩⟩
    rw [List.getElem?_map, getD_some 0 (by omega : i < perm.length)]
    simp only [Option.map_some]
    rw [List.getD_eq_getElem?_getD (l := rs.toList), e1]
    rfl
  refine ⟨D, perm.map fun i => rs.toList.getD i .none, fun i => sndOf s₉.heap ((perm.map fun i => rs.toList.getD i .none).getD i .none), rfl, lD, by simp [hpl]; omega, fun i v e => ?_, fun O s₁₀ k₁₀ lO => ?_⟩
  · have hi : i < ns.length := by
      have := (List.getElem?_eq_some_iff.mp e).1
      simpa [hpl] using this
    obtain ⟨p, r, tr, e1, e2⟩ := vget i hi
    rw [e1] at e; cases e
    refine ⟨p, .ref r, rfl, ?_⟩
    have eg : (perm.map fun i => rs.toList.getD i .none).getD i .none = .ref p := by rw [List.getD_eq_getElem?_getD, e1]; rfl
    show IsTup s₉.heap p #[Value.ref r, sndOf s₉.heap ((perm.map fun i => rs.toList.getD i .none).getD i .none)]
    rw [eg, sndOf_tup e2]
    obtain ⟨n1, e2⟩ := e2
    exact ⟨_, e2, rfl, n1, rfl⟩
  · have iO : IntsAre ((List.range (perm.map fun i => rs.toList.getD i .none).length).map fun i => sndOf s₉.heap ((perm.map fun i => rs.toList.getD i .none).getD i .none)) (orderOf (ltT (rowK ns)) ns.length) := by
      refine ints_of_get (by simp [orderOf, ← hperm]) fun i hi => ?_
      have hi' : i < ns.length := by simpa [orderOf, ← hperm, hpl] using hi
      obtain ⟨p, r, tr, e1, e2⟩ := vget i hi'
      refine ⟨tr, ?_⟩
      rw [List.getElem?_map, List.getElem?_range (by simp [hpl]; exact hi')]
      simp only [Option.map_some]
      have eg : (perm.map fun i => rs.toList.getD i .none).getD i .none = .ref p := by rw [List.getD_eq_getElem?_getD, e1]; rfl
      rw [eg, sndOf_tup e2]
      have eo : (orderOf (ltT (rowK ns)) ns.length).getD i 0 = ((perm.getD i 0 : Nat) : Int) := by
        unfold orderOf
        rw [← hperm, List.getD_eq_getElem?_getD, List.getElem?_map, getD_some 0 (by omega : i < perm.length)]
        rfl
      rw [eo]
    refine spliced_none ?_
    refine wpAny_newList ?_ (by rw [sizeLine_eq]; show 2 ≤ _; decide)
    have up₁₁ : Up s₁₀.heap (s₁₀.heap.push (seqObj "list" #[Value.ref T, Value.ref O] 0)) := up_push _ _
    refine hQ _ _ T R O ?_ ?_ ((jd₉.t13.up (kup k₁₀)).up up₁₁) ?_ ?_ ⟨_, isList_keeps lO up₁₁, iO⟩
    · exact (Sh.ks x₈.ks).trans (sh₉.trans ((Sh.keeps k₁₀).trans ⟨_, _, rfl⟩))
    · exact fun b o n e => up₁₁ _ _ (kup k₁₀ _ _ (jd₉.kp b o n (Nat.ne_of_lt (Heap.lt_size e)) (x₈.ks.get b o n e)))
    · exact listIs (Heap.get?_push_size _ rfl)
    · exact ((due.lk lk₉).lk (LK.up (kup k₁₀))).lk (LK.up up₁₁)
end
end Mine
end

section
open PySem PySem.W PySem.Calls PyProof.Rows
set_option maxRecDepth 100000
set_option linter.unusedVariables false
namespace Mine
theorem getD_map_lt (f : Int → Int) (b : List Int) {j : Nat} (h : j < b.length) : (b.map f).getD j 0 = f (b.getD j 0) := by
  rw [List.getD_eq_getElem?_getD, List.getD_eq_getElem?_getD, List.getElem?_map, List.getElem?_eq_getElem h]; rfl
theorem jn_assoc (a b c : List Int) (h : ∀ x ∈ c, 0 ≤ x ∧ x < b.length) : jn (jn a b) c = jn a (jn b c) := by
  unfold jn
  rw [List.map_map]
  refine List.map_congr_left fun x hx => ?_
  obtain ⟨h0, h1⟩ := h x hx
  exact getD_map_lt _ b (by omega)
theorem jn_first {r : List Int} (h : r.length = 5) : jn r first5 = r := by
  match r, h with
  | [a, b, c, d, e], _ => rfl
theorem first_jn {r : List Int} (h : ∀ x ∈ r, 0 ≤ x ∧ x < 5) : jn first5 r = r := by
  unfold jn
  refine (List.map_congr_left fun x hx => ?_).trans (List.map_id r)
  obtain ⟨h0, h1⟩ := h x hx
  obtain ⟨n, rfl⟩ : ∃ n : Nat, x = (n : Int) := ⟨x.toNat, (Int.toNat_of_nonneg h0).symm⟩
  have : n < 5 := by omega
  rw [Int.toNat_natCast]
  match n, this with
  | 0, _ => rfl
  | 1, _ => rfl
  | 2, _ => rfl
  | 3, _ => rfl
  | 4, _ => rfl
theorem rowD_in (wd : List Nat) : ∀ x ∈ rowD wd, 0 ≤ x ∧ x < 5 := (rowD_ok wd).1.2.1
theorem rowD_cons' (c : Nat) (wd : List Nat) : rowD (c :: wd) = jn (mv c) (rowD wd) := rowD_cons c wd
theorem fold_row : ∀ (wd : List Nat) {r : List Int}, r.length = 5 → wd.foldl step1 r = jn r (rowD wd)
  | [], r, h => (jn_first h).symm
  | c :: wd, r, h => by
    show wd.foldl step1 (jn r (mv c)) = _
    rw [fold_row wd (by unfold jn; rw [List.length_map]; exact (mv_ok c).1), rowD_cons', jn_assoc]
    intro x hx
    rw [(mv_ok c).1]
    exact rowD_in wd x hx
theorem fold_first (wd : List Nat) : wd.foldl step1 first5 = rowD wd := by
  rw [fold_row wd rfl, first_jn (rowD_in wd)]
theorem rowD_append (a b : List Nat) : rowD (a ++ b) = jn (rowD a) (rowD b) := by
  rw [← fold_first, List.foldl_append, fold_first, fold_row b rfl]
theorem lett_code (n : Int) (k : Nat) : lett (code n k) = lettr n k := (by decide : ∀ d < 14, lett ((codes.getD d 0).toNat) = lettersN.getD d []) _ (dig_lt n k)
theorem deedR_row {r : List Int} (h : r.length = 5) (n : Int) (k : Nat) : deedR r (code n k) = jn r (rowD (lettr n k)) := by
  unfold deedR
  rw [lett_code, fold_row _ h]
theorem jnL (a : List Int) {b : List Int} (h : b.length = 5) : (jn a b).length = 5 := by unfold jn; rw [List.length_map]; exact h
theorem codes_row {r : List Int} (h : r.length = 5) (n : Int) : (codesOf n).foldl deedR r = jn r (rowD (wordN n)) := by
  show deedR (deedR (deedR r (code n 0)) (code n 1)) (code n 2) = _
  rw [deedR_row h, deedR_row (jnL _ rfl), deedR_row (jnL _ rfl)]
  unfold wordN
  rw [rowD_append, rowD_append, jn_assoc r (rowD (lettr n 0)) (rowD (lettr n 1)) (fun x hx => rowD_in _ x hx), jn_assoc r (jn (rowD (lettr n 0)) (rowD (lettr n 1))) (rowD (lettr n 2)) (fun x hx => rowD_in _ x hx)]
theorem rowN_eq (n : Int) : rowN n = rowD (wordN n) := by
  unfold rowN
  rw [codes_row rfl, first_jn (rowD_in _)]
theorem joinN_eq (n : Int) : joinN n = rowD (wordN n) := by
  show jn (jn (deedR first5 (code n 0)) (deedR first5 (code n 1))) (deedR first5 (code n 2)) = _
  rw [deedR_row rfl, deedR_row rfl, deedR_row rfl, first_jn (rowD_in _), first_jn (rowD_in _), first_jn (rowD_in _)]
  unfold wordN
  rw [rowD_append, rowD_append]
/-- the while's times, by the row alone -/
noncomputable def wlP (row : List Int) : Nat → List Int → Nat → Nat
  | 0, _, t => t
  | f + 1, ag, t => if ag ≠ first5 ∧ t < 9 then wlP row f (jn ag row) (t + 1) else t
theorem wl_eq (n : Int) : ∀ (f : Nat) (ag : List Int) (t : Nat), ag.length = 5 → wl (codesOf n) f ag t = wlP (rowD (wordN n)) f ag t
  | 0, _, _, _ => rfl
  | f + 1, ag, t, h => by
    rw [wl, wlP, codes_row h]
    split
    · exact wl_eq n f _ _ (jnL _ rfl)
    · rfl
theorem times_perms : ∀ p ∈ perms5, ((wlP p 8 p 1 : Nat) : Int) = timesD (ringsL p) := by
  have h : (perms5.all fun p => ((wlP p 8 p 1 : Nat) : Int) == timesD (ringsL p)) = true := by decide +kernel
  exact fun p hp => eq_of_beq (List.all_eq_true.mp h p hp)
theorem timesN_eq (n : Int) : ((timesN n : Nat) : Int) = timesD (ringsL (rowD (wordN n))) := by
  unfold timesN
  rw [rowN_eq, wl_eq n 8 _ 1 rfl]
  exact times_perms _ (rowD_perm _)
theorem cmpL_self : ∀ a : List Int, cmpL a a = 0
  | [] => rfl
  | x :: xs => by
    show (if x = x then cmpL xs xs else _) = 0
    rw [if_pos rfl]; exact cmpL_self xs
theorem ltN_def (ns : List Int) (i j : Nat) : ltN ns i j = decide (cmpL (rowK ns i) (rowK ns j) < 0) := by
  show decide (cmpL (rowN (ns.getD i 0)) (rowN (ns.getD j 0)) < 0) = _
  rw [rowN_eq, rowN_eq]; rfl
theorem order_eq {ns : List Int} (h3 : 3 ≤ ns.length) (q1 : ltN ns 1 0 = false) (q2 : ltN ns 2 1 = true) (q3 : ltN ns 0 1 = true) : orderOf (ltN ns) ns.length = orderOf (ltT (rowK ns)) ns.length := by
  unfold orderOf
  rw [ksOn_eq (lt := ltN ns) (lt' := ltT (rowK ns)) (P := KsP ns.length) ?_ _ (ks_sort h3 q1 q2 q3)]
  rintro i j ⟨hi, hj, h⟩
  rw [ltN_def]
  unfold ltT
  by_cases hq : rowK ns i = rowK ns j
  · rw [if_pos hq, hq, cmpL_self]
    rcases h with h | ⟨rfl, rfl⟩
    · rw [show decide (i < j) = false from decide_eq_false (by omega)]; rfl
    · exfalso
      rw [ltN_def, hq, cmpL_self] at q3
      cases q3
  · rw [if_neg hq, lexLt_cmp]
theorem qs (ms : List Int) : ltN (2259 :: 2612 :: 2706 :: ms) 1 0 = false ∧ ltN (2259 :: 2612 :: 2706 :: ms) 2 1 = true ∧ ltN (2259 :: 2612 :: 2706 :: ms) 0 1 = true := by
  refine ⟨?_, ?_, ?_⟩
  · show decide (cmpL (rowN 2612) (rowN 2259) < 0) = false
    decide +kernel
  · show decide (cmpL (rowN 2706) (rowN 2612) < 0) = true
    decide +kernel
  · show decide (cmpL (rowN 2259) (rowN 2612) < 0) = true
    decide +kernel
theorem qsT (ms : List Int) : ltT (rowK (2259 :: 2612 :: 2706 :: ms)) 1 0 = false ∧ ltT (rowK (2259 :: 2612 :: 2706 :: ms)) 2 1 = true ∧ ltT (rowK (2259 :: 2612 :: 2706 :: ms)) 0 1 = true := by
  refine ⟨?_, ?_, ?_⟩
  · show (if rowD (wordN 2612) = rowD (wordN 2259) then _ else lexLt (rowD (wordN 2612)) (rowD (wordN 2259))) = false
    decide +kernel
  · show (if rowD (wordN 2706) = rowD (wordN 2612) then _ else lexLt (rowD (wordN 2706)) (rowD (wordN 2612))) = true
    decide +kernel
  · show (if rowD (wordN 2259) = rowD (wordN 2612) then _ else lexLt (rowD (wordN 2259)) (rowD (wordN 2612))) = true
    decide +kernel
end Mine
end

section
open PySem PySem.W PySem.Calls PyProof.Rows PySem.Spec PySem.SeqAt
set_option maxRecDepth 100000
set_option linter.unusedVariables false
namespace Mine
/-- what is told of one number, as data -/
noncomputable def dN (n : Int) : PyData := .list [.list ((rowD (wordN n)).map .int), .list ((rowD (wordN n)).map .int), .int (timesD (ringsL (rowD (wordN n))))]
noncomputable def dAll (ns : List Int) : PyData := .list [.list (ns.map dN), .list ((orderOf (ltT (rowK ns)) ns.length).map .int)]
theorem dN_lay (n : Int) : (dN n).canLay0 = true := by
  simp only [dN, PyData.canLay0, PyData.canLayAll0, canLayAll0_ints, Bool.and_self]
theorem dN_depth (n : Int) : (dN n).depth ≤ 3 := by
  have h := W.depthAll_ints (rowD (wordN n))
  simp only [dN, PyData.depth, PyData.depthAll]
  omega
theorem dAll_shaped (ns : List Int) : shaped (dAll ns) = true := by
  have h1 : ∀ ns : List Int, PyData.canLayAll0 (ns.map dN) = true := fun ns => by
    induction ns with
    | nil => simp [PyData.canLayAll0]
    | cons n r ih => simp only [List.map_cons, PyData.canLayAll0, dN_lay, ih, Bool.and_self]
  have h2 : ∀ ns : List Int, PyData.depthAll (ns.map dN) ≤ 3 := fun ns => by
    induction ns with
    | nil => simp [PyData.depthAll]
    | cons n r ih =>
      have := dN_depth n
      simp only [List.map_cons, PyData.depthAll]
      omega
  have h3 := W.depthAll_ints (orderOf (ltT (rowK ns)) ns.length)
  have h4 := h2 ns
  show (PyData.canLay0 (dAll ns) && decide (PyData.depth (dAll ns) ≤ 64)) = true
  rw [Bool.and_eq_true]
  refine ⟨?_, decide_eq_true ?_⟩
  · simp only [dAll, PyData.canLay0, PyData.canLayAll0, h1, canLayAll0_ints, Bool.and_self]
  · simp only [dAll, PyData.depth, PyData.depthAll]
    omega
theorem dAll_lay (ns : List Int) : (dAll ns).canLay0 = true := by
  have h : (PyData.canLay0 (dAll ns) && decide (PyData.depth (dAll ns) ≤ 64)) = true := dAll_shaped ns
  exact (Bool.and_eq_true_iff.mp h).1
theorem readsAll_of {h : Heap} : ∀ {vs : List Value} {ds : List PyData}, vs.length = ds.length → (∀ (i : Nat) v d, vs[i]? = some v → ds[i]? = some d → ∃ as, Reads h v d as) → ∃ as, ReadsAll h vs ds as
  | [], [], _, _ => ⟨_, .nil⟩
  | v :: vs, d :: ds, hl, H => by
    obtain ⟨a, ha⟩ := H 0 v d rfl rfl
    obtain ⟨as, has⟩ := readsAll_of (vs := vs) (ds := ds) (by simpa using hl) fun i v d h1 h2 => H (i + 1) v d (by simpa using h1) (by simpa using h2)
    exact ⟨_, .cons ha has⟩
  | [], _ :: _, hl, _ => by simp at hl
  | _ :: _, [], hl, _ => by simp at hl
theorem reads_list {h : Heap} {a : Addr} {vs : Array Value} {ds : List PyData} (x : h.IsList a vs) (r : ∃ as, ReadsAll h vs.toList ds as) : ∃ as, Reads h (.ref a) (.list ds) as := by
  obtain ⟨o, e, c, n, d⟩ := x
  obtain ⟨as, r⟩ := r
  exact ⟨_, .list e c d r⟩
theorem reads_ints {h : Heap} {a : Addr} {ns : List Int} (x : LInts h a ns) : ∃ as, Reads h (.ref a) (.list (ns.map .int)) as := let ⟨vs, i, r⟩ := x; ⟨_, reads_of_ints i r⟩
theorem readsAll_2 {h : Heap} {a b : Value} {d e : PyData} (x : ∃ as, Reads h a d as) (y : ∃ as, Reads h b e as) : ∃ as, ReadsAll h [a, b] [d, e] as := let ⟨_, x⟩ := x; let ⟨_, y⟩ := y; ⟨_, .cons x (.cons y .nil)⟩
theorem readsAll_3 {h : Heap} {a b c : Value} {d e f : PyData} (x : ∃ as, Reads h a d as) (y : ∃ as, Reads h b e as) (z : ∃ as, Reads h c f as) : ∃ as, ReadsAll h [a, b, c] [d, e, f] as := let ⟨_, x⟩ := x; let ⟨_, y⟩ := y; let ⟨_, z⟩ := z; ⟨_, .cons x (.cons y (.cons z .nil))⟩
theorem told_reads {h : Heap} {D T R O : Addr} {ns : List Int} (x : h.IsList D #[.ref T, .ref O]) (t : Told h T R ns ns.length) (o : LInts h O (orderOf (ltT (rowK ns)) ns.length)) : ∃ as, Reads h (.ref D) (dAll ns) as := by
  refine reads_list x (readsAll_2 ?_ (reads_ints o))
  obtain ⟨ts, rs, p1, p2, z1, z2, H⟩ := t
  refine reads_list p1.isList (readsAll_of (by simpa using z1) fun i v d h1 h2 => ?_)
  have hi : i < ns.length := by
    have := (List.getElem?_eq_some_iff.mp h2).1
    simpa using this
  obtain ⟨t, r, j, tm, e1, e2, e3, e4, e5⟩ := H i hi
  have hv : v = .ref t := by
    have : ts.toList[i]? = some (.ref t) := by simpa using e1
    rw [this] at h1; cases h1; rfl
  have hd : d = dN (ns.getD i 0) := by
    rw [List.getElem?_map, getD_some 0 hi] at h2
    simpa using h2.symm
  rw [hv, hd]
  rw [rowN_eq] at e4
  rw [joinN_eq] at e5
  rw [timesN_eq] at e3
  exact reads_list e3 (readsAll_3 (reads_ints e4) (reads_ints e5) ⟨_, .int _ _⟩)
theorem due_reads {h : Heap} {D T R O : Addr} {ns : List Int} (x : h.IsList D #[.ref T, .ref O]) (t : Due h T R ns ns.length) (o : LInts h O (orderOf (ltT (rowK ns)) ns.length)) : ∃ as, Reads h (.ref D) (dAll ns) as := by
  refine reads_list x (readsAll_2 ?_ (reads_ints o))
  obtain ⟨ts, rs, p1, p2, z1, z2, H⟩ := t
  refine reads_list p1.isList (readsAll_of (by simpa using z1) fun i v d h1 h2 => ?_)
  have hi : i < ns.length := by
    have := (List.getElem?_eq_some_iff.mp h2).1
    simpa using this
  obtain ⟨t, r, p, tm, tr, e1, e2, e3, e4, e5⟩ := H i hi
  have hv : v = .ref t := by
    have : ts.toList[i]? = some (.ref t) := by simpa using e1
    rw [this] at h1; cases h1; rfl
  have hd : d = dN (ns.getD i 0) := by
    rw [List.getElem?_map, getD_some 0 hi] at h2
    simpa using h2.symm
  rw [hv, hd]
  exact reads_list e3 (readsAll_3 (reads_ints e5) (reads_ints e5) ⟨_, .int _ _⟩)
section
variable {w : World} {A : Around} {E : Value → Shared → Prop} {s : Shared} {Q : Value → Shared → Prop}
theorem law_spec {l : Addr} {vs : List Value} {ns : List Int} (hA : Ar 90 A) (X : TG w s.heap) (e16 : s.heap.get? 16 = some (tabObj #[])) (e127 : s.heap.get? 127 = some (tabObj #[])) (hl : s.heap.IsList l vs.toArray) (iv : IntsAre vs ns) (h63 : ns.length ≤ 63)
    (hQ : ∀ s', Sh s s' → Kp s.heap s'.heap → T13 s'.heap → (∃ ps, s'.heap.get? 16 = some (tabObj ps)) → (∃ ps, s'.heap.get? 127 = some (tabObj ps)) → Q (.bool true) s') :
    wpAny (model prg w) A (PySem.call (.ref 142) [.ref l]) Q E s := by
  refine enter (body := bodyAt 17) hA X.1 rfl rfl rfl rfl rfl rfl rfl rfl rfl (fun s₁ y₁ => ?_)
  have L143 : 143 ≤ s.heap.objs.size := X.1.size
  have k₁ : Keeps s s₁ := y₁.done
  have x₁ := Fn.of y₁ (Nat.le_trans (by decide) L143)
  have X₁ := X.d x₁.ks.d
  refine wpAny_execs_cons ?_
  refine wpAny_Assign_Name ?_
  refine wpAny_BinOp ?_
  refine list_lits (ns := [2259, 2612, 2706]) ?_ ?_ ?_
  · exact (.cons _ _ _ (.cons _ _ _ (.cons _ _ _ .nil)))
  · decide
  intro va ta ia
  have la : IsL (s₁.heap.push { cls := .type "list", data := .seq va.toArray }) s₁.heap.objs.size va.toArray 0 := Heap.get?_push_size _ rfl
  have k₂ : Keeps s₁ { s₁ with heap := s₁.heap.push { cls := .type "list", data := .seq va.toArray }, toks := ta } := ⟨_, _, rfl, up_push _ _⟩
  have hl₂ : (s₁.heap.push { cls := .type "list", data := .seq va.toArray }).IsList l vs.toArray := isList_keeps hl fun b o e => kup k₂ _ _ (kup k₁ _ _ e)
  obtain ⟨s₂, hs₂⟩ : ∃ s₂ : Shared, s₂ = { s₁ with heap := s₁.heap.push { cls := .type "list", data := .seq va.toArray }, toks := ta } := ⟨_, rfl⟩
  rw [← hs₂] at k₂ ⊢
  have la₂ : IsL s₂.heap s₁.heap.objs.size va.toArray 0 := by rw [hs₂]; exact la
  have hl₂ : s₂.heap.IsList l vs.toArray := by rw [hs₂]; exact hl₂
  clear hs₂ la
  have x₂ := x₁.to (KS.of_keeps k₂)
  have hvz : vs.length = ns.length := iv.length
  refine Subscript_ (x₂.ld rfl rfl (by rfl) ?_)
  refine wpAny_Slice (wpAny_evalPart_none (wpAny_evalPart_some (wpAny_Constant_int (wpAny_evalPart_none ?_))))
  refine tail_any (s := { s₂ with heap := s₂.heap.push { cls := .type "slice", data := .fields #[.none, .int 4 s₂.toks, .none] }, toks := s₂.toks + 1 }) (T := "list") (hl₂.push _).typeIs slot_list_getitem.lookup
    (wpAny_getItem_list_slice (s := { s₂ with heap := s₂.heap.push { cls := .type "slice", data := .fields #[.none, .int 4 s₂.toks, .none] }, toks := s₂.toks + 1 }) (hl₂.push _) (Heap.IsSliceOf.new ..) .none (.int 4 _) .none (by simp) ?_ (by rw [List.size_toArray, hvz, sizeLine_eq]; omega)) (by with_unfolding_all rfl)
  rw [show (some (4 : Int)) = some ((4 : Nat) : Int) from rfl, slicePick_upto' vs.toArray 4]
  have k₃ : Keeps s₂ { s₂ with heap := (s₂.heap.push { cls := .type "slice", data := .fields #[.none, .int 4 s₂.toks, .none] }).push { cls := .type "list", data := .seq (vs.take 4).toArray }, toks := s₂.toks + 1 } := ⟨_, _, rfl, fun b o e => up_push _ _ _ _ (up_push _ _ _ _ e)⟩
  obtain ⟨s₃, hs₃⟩ : ∃ s₃ : Shared, s₃ = { s₂ with heap := (s₂.heap.push { cls := .type "slice", data := .fields #[.none, .int 4 s₂.toks, .none] }).push { cls := .type "list", data := .seq (vs.take 4).toArray }, toks := s₂.toks + 1 } := ⟨_, rfl⟩
  rw [show vs.toArray.toList = vs from rfl]
  have lb₃ : IsL s₃.heap (s₂.heap.push { cls := .type "slice", data := .fields #[.none, .int 4 s₂.toks, .none] }).objs.size (vs.take 4).toArray 0 := by rw [hs₃]; exact Heap.get?_push_size _ rfl
  rw [← hs₃] at k₃ ⊢
  clear hs₃
  have la₃ : IsL s₃.heap s₁.heap.objs.size va.toArray 0 := kup k₃ _ _ la₂
  have x₃ := x₂.to (KS.of_keeps k₃)
  have z3 : va.length = 3 := ia.length
  refine P.add_list la₃ lb₃ ?_ (by rw [List.size_toArray, List.size_toArray, List.length_take, z3, sizeLine_eq]; omega)
  have i₄ : IntsAre (va ++ vs.take 4) (2259 :: 2612 :: 2706 :: ns.take 4) := ia.append (iv.take 4)
  have e4 : va.toArray ++ (vs.take 4).toArray = (va ++ vs.take 4).toArray := by simp
  rw [e4]
  have l₄ : LInts (s₃.heap.push { cls := .type "list", data := .seq (va ++ vs.take 4).toArray }) s₃.heap.objs.size (2259 :: 2612 :: 2706 :: ns.take 4) := ⟨_, ⟨_, Heap.get?_push_size _ rfl, rfl, _, rfl⟩, i₄⟩
  have k₄ : Keeps s₃ { s₃ with heap := s₃.heap.push { cls := .type "list", data := .seq (va ++ vs.take 4).toArray } } := ⟨_, _, rfl, up_push _ _⟩
  have ha143 : 143 ≤ s₃.heap.objs.size := Nat.le_trans L143 (Nat.le_trans x₃.fresh (Nat.le_of_lt x₃.ns.lt))
  obtain ⟨ms, hms⟩ : ∃ ms, ms = ns.take 4 := ⟨_, rfl⟩
  have hmz : ms.length ≤ 4 := by rw [hms, List.length_take]; omega
  rw [← hms] at l₄
  clear hms i₄
  generalize s₃.heap.objs.size = a at *
  have x₄ := x₃.to (KS.of_keeps k₄)
  refine x₄.st rfl rfl fun s₅ x₅ c₅ => ?_
  have l₅ : LInts s₅.heap a (2259 :: 2612 :: 2706 :: ms) := lints_ch l₄ x₄.ns c₅
  have X₅ := X.d x₅.ks.d
  have kp₅ : Kp s.heap s₅.heap := fun b o e n => x₅.ks.get b o (fun q => n (by rw [q]; decide)) e
  have n16 := x₅.ks.get _ _ (by decide) e16
  have n127 := x₅.ks.get _ _ (by decide) e127
  obtain ⟨q1, q2, q3⟩ := qs ms
  obtain ⟨r1, r2, r3⟩ := qsT ms
  have hz : (2259 :: 2612 :: 2706 :: ms : List Int).length ≤ 7 := by simp; omega
  have hz3 : 3 ≤ (2259 :: 2612 :: 2706 :: ms : List Int).length := by simp
  have ho := order_eq hz3 q1 q2 q3
  refine wpAny_execs_cons ?_
  refine wpAny_Return_some ?_
  refine wpAny_Compare1 ?_
  refine Call_ (gname (v := .ref 130) X₅.1 (by kernel_rfl) rfl rfl rfl ?_)
  refine callWith_K (K := K w.params) X₅.1.k (by kernel_rfl) ?_
  refine spliced_more (x₅.ld rfl rfl (by rfl) (spliced_none ⟨X₅.1.k, ?_⟩))
  refine told_spec ((hA.deeper _).le (by decide)) X₅ n16 n127 l₅ hz3 (by omega) q1 q2 q3 fun D s₆ T R O sh₆ kp₆ iD₆ told₆ lO₆ t₆ m16 m127 => ?_
  have X₆ : TG w s₆.heap := ⟨X₅.1.kp kp₆, t₆⟩
  have nt : ∀ {b : Addr}, 143 ≤ b → b ∉ tabs3 := fun hb h => by
    simp only [tabs3, List.mem_cons, List.not_mem_nil, or_false] at h
    rcases h with rfl | rfl | rfl <;> exact absurd hb (by decide)
  have l₆ : LInts s₆.heap a (2259 :: 2612 :: 2706 :: ms) := let ⟨vs, i, r⟩ := l₅; ⟨vs, isList_at i fun o e => kp₆ _ _ e (nt ha143), r⟩
  have hL : s.heap.objs.size ∉ tabs3 := nt L143
  have ns₆ := ns_at x₅.ns fun o e => kp₆ _ _ e hL
  refine Call_ (gname (v := .ref 135) X₆.1 (by kernel_rfl) rfl rfl rfl ?_)
  refine callWith_K (K := K w.params) X₆.1.k (by kernel_rfl) ?_
  refine spliced_more (wpAny_Name (wpAny_loadName_local rfl rfl ns₆ (by rfl) (spliced_none ⟨X₆.1.k, ?_⟩)))
  refine due_spec ((hA.deeper _).le (by decide)) X₆ l₆ hz3 (by omega) r1 r2 r3 fun D' s₇ T' R' O' sh₇ kp₇ t₇ iD₇ due₇ lO₇ => ?_
  have lk₇ : LK s₆.heap s₇.heap := fun b o e d => kp₇ b o (by
    rintro rfl
    obtain ⟨ps, e', _⟩ := t₆
    rw [e] at e'; cases e'
    obtain ⟨vs, n, d⟩ := d
    cases d) e
  rw [ho] at lO₆
  obtain ⟨as, ra⟩ := told_reads (lk₇.list iD₆) (told₆.lk lk₇) (lk₇.ints lO₆)
  obtain ⟨bs, rb⟩ := due_reads iD₇ due₇ lO₇
  refine eq_dataH ra rb (dAll_shaped _) (dAll_shaped _) (hA.deeper _ |>.le (by decide : 0 ≤ 89)).unit ?_
  rw [eqv_refl _ (dAll_lay _)]
  refine hQ s₇ ((Sh.ks x₅.ks).trans (sh₆.trans sh₇)) (fun b o e n => kp₇ b o (fun q => n (by rw [q]; decide)) (kp₆ _ _ (kp₅ b o e n) n)) t₇ ?_ ?_
  · obtain ⟨ps, e⟩ := m16
    exact ⟨ps, kp₇ _ _ (by decide) e⟩
  · obtain ⟨ps, e⟩ := m127
    exact ⟨ps, kp₇ _ _ (by decide) e⟩
end
end Mine
end

section
open PySem PySem.W PySem.Calls PyProof.Rows
set_option maxRecDepth 100000
set_option linter.unusedVariables false
namespace Mine
noncomputable abbrev rowL : RowW := PySem.Challenge.rw_pe0222_01.row.toRowW
noncomputable def recL : DefRec := match stm 17 with
  | .FunctionDef name args body _ _ _ scope _ _ pos => { name := name, params := args, body := body, scope := scope, pos := pos }
  | _ => { name := "", params := default, body := [], scope := default, pos := default }
theorem hdefL : defOf qL PySem.Challenge.rw_pe0222_01.row.name = some (recL, []) := by kernel_rfl
theorem kh_K {P : Params} {a : Addr} {o : Obj} (e : (K P).lookup a = some o) : (KH P).lookup a = some o := by
  have n := K_no_tab P a o e
  simp only [tabs3, List.mem_cons, List.not_mem_nil, or_false, not_or] at n
  obtain ⟨n1, n2, n3⟩ := n
  unfold KH
  rw [List.lookup_cons, List.lookup_cons, List.lookup_cons]
  rw [beq_eq_false_iff_ne.mpr n1, beq_eq_false_iff_ne.mpr n2, beq_eq_false_iff_ne.mpr n3]
  exact e
theorem asIt {h h' : Heap} {b c : Addr} {o : Obj} {ps : Array Value} (t : h.TableAt c b #[]) (e : h.get? b = some o) (x : h'.get? b = some (tabObj ps)) : asItWas h h' b o := by
  have e0 : o = { cls := .none, data := .fields #[] } := Option.some.inj (e.symm.trans t.2)
  subst e0
  exact .inr (.inl ⟨t.isCodeTable, rfl, #[], ps, rfl, by rw [x]; simp⟩)
theorem walkL : WalkO qL looseL (fun _ _ => True) hkL.says rowL recL [] (fun f vs => PySem.call f vs) := by
  intro w s₀ s₁ mg mb G Y a o pm cd doc dV kV ho hd hcd hD hmg hg args vals as hpre hlay hrd hwl hlo
  have KX : (KH w.params).In s₁.heap := kIn_of Y
  have KK : (K w.params).In s₁.heap := fun a o e => KX a o (kh_K e)
  have t16 : s₁.heap.get? 16 = some (tabObj #[]) := KX 16 _ (by rfl)
  have t113 : s₁.heap.get? 113 = some (tabObj #[]) := KX 113 _ (by rfl)
  have t127 : s₁.heap.get? 127 = some (tabObj #[]) := KX 127 _ (by rfl)
  have T := G.T
  have X : Gl w s₁.heap := by
    refine ⟨KK, ⟨mg, T.g⟩, ⟨mb, T.b, T.builtins⟩, T.nolimit, ?_⟩
    obtain ⟨bm, ob, b1, _, b2, b3, b4, b5⟩ := T.bmain
    have e4 := mg_of KK T.g (n := "__builtins__") (v := .ref 4) (by kernel_rfl)
    have : bm = 4 := by
      have := b1.symm.trans e4
      injection this with this
      injection this
    subst this
    exact ⟨ob, b2, b3, b4, b5⟩
  have T0 : T13 s₁.heap := ⟨#[], t113, trivial, .inl rfl⟩
  have ha : a = 142 := by
    have e := mg_of KK T.g (n := recL.name) (v := .ref 142) (by kernel_rfl)
    have := hmg.symm.trans e
    injection this with this
    injection this
  subst ha
  have c16 : s₁.heap.TableAt 20 16 #[] := ⟨⟨_, _, KK 20 _ (by rfl), rfl, rfl, rfl⟩, t16⟩
  have c113 : s₁.heap.TableAt 117 113 #[] := ⟨⟨_, _, KK 117 _ (by rfl), rfl, rfl, rfl⟩, t113⟩
  have c127 : s₁.heap.TableAt 129 127 #[] := ⟨⟨_, _, KK 129 _ (by rfl), rfl, rfl, rfl⟩, t127⟩
  wrow_args hpre hlay hrd hwl hlo
  rename_i ns _ _ _ _ _ _ _ l vs _ il _ _ _ iv _ hz _
  have hz : ns.length ≤ 63 := by omega
  have hA : Ar 90 callerA := ⟨rfl, by decide, by decide⟩
  refine law_spec (E := _) hA ⟨X, T0⟩ t16 t127 il iv hz fun s' sh kp t13 m16 m127 => ?_
  obtain ⟨h', tk, rfl⟩ := sh
  have K' : OldK s₁.heap h' := by
    have at' : ∀ b o, s₁.heap.get? b = some o → asItWas s₁.heap h' b o := fun b o e => by
      by_cases hb : b ∈ tabs3
      · simp only [tabs3, List.mem_cons, List.not_mem_nil, or_false] at hb
        rcases hb with rfl | rfl | rfl
        · obtain ⟨ps, x⟩ := m16
          exact asIt c16 e x
        · obtain ⟨ps, x, _⟩ := t13
          exact asIt c113 e x
        · obtain ⟨ps, x⟩ := m127
          exact asIt c127 e x
      · exact .inl (kp b o e hb)
    refine ⟨at', fun b o e => ?_⟩
    by_cases hb : b ∈ tabs3
    · simp only [tabs3, List.mem_cons, List.not_mem_nil, or_false] at hb
      rcases hb with rfl | rfl | rfl
      · obtain ⟨ps, x⟩ := m16
        exact ⟨_, x⟩
      · obtain ⟨ps, x, _⟩ := t13
        exact ⟨_, x⟩
      · obtain ⟨ps, x⟩ := m127
        exact ⟨_, x⟩
    · exact ⟨o, kp b o e hb⟩
  refine ⟨.inl ⟨.bool true, .bool true, [], rfl, fun _ => rfl, .bool true, ?_, fun _ => ⟨.nil, fun a h => nomatch h⟩⟩, K', rfl, .of_eq hg⟩
  wrow_post
end Mine
end

open PySem PySem.W PySem.Calls PyProof.Rows
set_option maxRecDepth 100000
set_option linter.unusedVariables false
namespace Mine
/-- the law is well said, look by look, over the fast twins of the looks -/
theorem law_said : OpenLaw.wellSaid PySem.Challenge.rw_pe0222_01 = true := by
  unfold OpenLaw.wellSaid OpenRow.wellSaid OpenRow.partSaid looksOpen
  simp only [Bool.and_eq_true]
  repeat' refine And.intro ?_ ?_
  all_goals first | rw [PySem.W.Fast.te8326940854005059898] | rw [PySem.W.Fast.te8377067652309620493] | rw [PySem.W.Fast.te17119622794617984870] | skip
  all_goals decide +kernel
end Mine
set_option maxHeartbeats 4000000 in
theorem PySem.Challenge.cw_pe0222_01_holds : PySem.Challenge.rw_pe0222_01.Holds := by
  w_on
  refine holds_law (l := PySem.Challenge.rw_pe0222_01) Mine.law_said fun said => ?_
  refine holds_open (q := Mine.qL) (loose := Mine.looseL) (Xt := fun _ => true) (XP := fun _ _ => True) (Yf := Mine.hkL.obs) (Ya := Mine.hkL.val) (YP := Mine.hkL.says) (N := 40000) Mine.left (Hook.of Mine.hkL) (Hook.keeps Mine.hkL) (fun _ _ => trivial) (fun _ _ _ _ _ => trivial) Mine.hdefL (by rfl) (by rfl)
    (fun s _ => recFacts_of (by rfl)) (by rfl) (by assumption) (by decide +kernel) ⟨rfl, rfl, rfl, rfl, rfl, by decide +kernel⟩ ?hw Mine.walkL
  case hw => exact ⟨[.list []], by decide +kernel, by decide +kernel⟩
