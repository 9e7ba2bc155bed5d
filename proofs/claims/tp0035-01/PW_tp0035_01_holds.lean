import PyProof.Rows.All
import Wide.All
import OpenK.AllK
import Wide.FinOn
import PySem.Challenge.RW_tp0035_01
set_option Elab.async false
set_option compiler.extract_closed false
section
open PySem PySem.W PyProof.Rows
set_option maxRecDepth 100000
set_option linter.unusedVariables false
namespace Mine

abbrev pw : Program := PySem.Challenge.pw_tp0035_01
noncomputable def fnBody (i : Nat) : List Stmt := match pw.main.body[i]? with | some (.FunctionDef _ _ b _ _ _ _ _ _ _) => b | _ => []
noncomputable def fnArgs (i : Nat) : Arguments := match pw.main.body[i]? with | some (.FunctionDef _ a _ _ _ _ _ _ _ _) => a | _ => { posonlyargs := [], args := [], vararg := none, kwonlyargs := [], kw_defaults := [], kwarg := none, defaults := [] }
noncomputable def fnScope (i : Nat) : Scope := match pw.main.body[i]? with | some (.FunctionDef _ _ _ _ _ _ sc _ _ _) => sc | _ => pw.main.scope
noncomputable def litPair : Option Expr × Expr → Option (Int × Str)
  | (some (.Constant (.int k) _ _), .Constant (.str x) _ _) => some (k, x)
  | _ => none
noncomputable def tabOf : Stmt → List (Int × Str)
  | .Assign _ (.Dict ks vs _) _ => (ks.zip vs).filterMap litPair
  | _ => []
noncomputable def tabA : List (Int × Str) := match pw.main.body[10]? with | some st => tabOf st | none => []
noncomputable def entsR (t d : Nat) : List (Int × Str) → List DictEntry
  | [] => []
  | (k, x) :: r => ⟨k, .int k t, .str x (t + 1)⟩ :: entsR (t + d) d r
noncomputable def subT (j : Nat) : List (Int × Str) := (tabA.drop (17 * j)).take 17
noncomputable def subB3 (j : Nat) : List DictEntry := if j < 38 then entsR (320 + 51 * j) 3 (subT j) else entsR 2258 2 (tabA.drop 646)
noncomputable def entB3 : List DictEntry := entsR 320 3 (tabA.take 646) ++ entsR 2258 2 (tabA.drop 646)
noncomputable def dictOb (es : List DictEntry) (n : Nat) : Obj := ⟨.type "dict", none, .dict es.toArray n, #[]⟩
noncomputable def heapK (P : Params) : Frag := 
  (nat_lit 2, (Obj.mk Value.none none (Data.dict (List.toArray []) 0) (List.toArray []))) ::
  (nat_lit 3, (Obj.mk (Value.type "dict") none (Data.dict (List.toArray [(DictEntry.mk (PyData.keyHash P (Str.ofString "__name__")) (Value.str (Str.ofString "__name__") 165) (Value.str (Str.ofString "law_tp0035_01") 2279)), (DictEntry.mk (PyData.keyHash P (Str.ofString "__doc__")) (Value.str (Str.ofString "__doc__") 166) Value.none), (DictEntry.mk (PyData.keyHash P (Str.ofString "__package__")) (Value.str (Str.ofString "__package__") 167) Value.none), (DictEntry.mk (PyData.keyHash P (Str.ofString "__loader__")) (Value.str (Str.ofString "__loader__") 168) (Value.builtin "__main__.__loader__#opaque")), (DictEntry.mk (PyData.keyHash P (Str.ofString "__spec__")) (Value.str (Str.ofString "__spec__") 169) Value.none), (DictEntry.mk (PyData.keyHash P (Str.ofString "__annotations__")) (Value.str (Str.ofString "__annotations__") 170) (Value.ref 6)), (DictEntry.mk (PyData.keyHash P (Str.ofString "__builtins__")) (Value.str (Str.ofString "__builtins__") 171) (Value.ref 4)), (DictEntry.mk (PyData.keyHash P (Str.ofString "__file__")) (Value.str (Str.ofString "__file__") 173) (Value.str (Str.ofString "/claim/cut.py") 172)), (DictEntry.mk (PyData.keyHash P (Str.ofString "__cached__")) (Value.str (Str.ofString "__cached__") 174) Value.none), (DictEntry.mk (PyData.keyHash P (Str.ofString "rgb_to_yiq")) (Value.str (Str.ofString "rgb_to_yiq") 200) (Value.ref 21)), (DictEntry.mk (PyData.keyHash P (Str.ofString "rgb_to_hls")) (Value.str (Str.ofString "rgb_to_hls") 219) (Value.ref 28)), (DictEntry.mk (PyData.keyHash P (Str.ofString "rgb_to_hsv")) (Value.str (Str.ofString "rgb_to_hsv") 237) (Value.ref 35)), (DictEntry.mk (PyData.keyHash P (Str.ofString "CHAR_MAX")) (Value.str (Str.ofString "CHAR_MAX") 241) (Value.int (127 : Int) 240)), (DictEntry.mk (PyData.keyHash P (Str.ofString "_grouping_intervals")) (Value.str (Str.ofString "_grouping_intervals") 250) (Value.ref 42)), (DictEntry.mk (PyData.keyHash P (Str.ofString "b1_set")) (Value.str (Str.ofString "b1_set") 312) (Value.ref 50)), (DictEntry.mk (PyData.keyHash P (Str.ofString "in_table_b1")) (Value.str (Str.ofString "in_table_b1") 319) (Value.ref 60)), (DictEntry.mk (PyData.keyHash P (Str.ofString "b3_exceptions")) (Value.str (Str.ofString "b3_exceptions") 2270) (Value.ref 61)), (DictEntry.mk (PyData.keyHash P (Str.ofString "map_table_b3")) (Value.str (Str.ofString "map_table_b3") 2278) (Value.ref 106)), (DictEntry.mk (PyData.keyHash P (Str.ofString "_law_draws")) (Value.str (Str.ofString "_law_draws") 2286) (Value.ref 111)), (DictEntry.mk (PyData.keyHash P (Str.ofString "_law_sizes")) (Value.str (Str.ofString "_law_sizes") 2292) (Value.ref 116)), (DictEntry.mk (PyData.keyHash P (Str.ofString "_law_marks")) (Value.str (Str.ofString "_law_marks") 2307) (Value.ref 123)), (DictEntry.mk (PyData.keyHash P (Str.ofString "_law_levels")) (Value.str (Str.ofString "_law_levels") 2313) (Value.ref 128)), (DictEntry.mk (PyData.keyHash P (Str.ofString "_law_typed")) (Value.str (Str.ofString "_law_typed") 2325) (Value.ref 135)), (DictEntry.mk (PyData.keyHash P (Str.ofString "_law_dealt")) (Value.str (Str.ofString "_law_dealt") 2331) (Value.ref 140)), (DictEntry.mk (PyData.keyHash P (Str.ofString "_law_seen")) (Value.str (Str.ofString "_law_seen") 2349) (Value.ref 147)), (DictEntry.mk (PyData.keyHash P (Str.ofString "_law_no_worse")) (Value.str (Str.ofString "_law_no_worse") 2355) (Value.ref 152)), (DictEntry.mk (PyData.keyHash P (Str.ofString "_law_untangled")) (Value.str (Str.ofString "_law_untangled") 2361) (Value.ref 157)), (DictEntry.mk (PyData.keyHash P (Str.ofString "law")) (Value.str (Str.ofString "law") 2372) (Value.ref 164))]) 28) (List.toArray []))) ::
  (nat_lit 6, (Obj.mk (Value.type "dict") none (Data.dict (List.toArray []) 0) (List.toArray []))) ::
  (nat_lit 15, (Obj.mk (Value.type "tuple") none (Data.seq (List.toArray []) 0) (List.toArray []))) ::
  (nat_lit 17, (Obj.mk (Value.type "tuple") none (Data.seq (List.toArray [(Value.str (Str.ofString "r") 192), (Value.str (Str.ofString "g") 193), (Value.str (Str.ofString "b") 194), (Value.str (Str.ofString "y") 195), (Value.str (Str.ofString "i") 196), (Value.str (Str.ofString "q") 197)]) 0) (List.toArray []))) ::
  (nat_lit 18, (Obj.mk (Value.type "tuple") none (Data.seq (List.toArray []) 0) (List.toArray []))) ::
  (nat_lit 20, (Obj.mk (Value.type "code") none (Data.fields (List.toArray [(Value.str (Str.ofString "rgb_to_yiq") 189), (Value.str (Str.ofString "rgb_to_yiq") 190), (Value.str (Str.ofString "/claim/cut.py") 191), (Value.int (2 : Int) 0), (Value.int (3 : Int) 0), (Value.int (0 : Int) 0), (Value.int (0 : Int) 0), (Value.int (3 : Int) 0), (Value.ref 15), (Value.bool Bool.true), (Value.int (181 : Int) 0), (Value.ref 16), Value.none, (Value.ref 17), (Value.ref 18), (Value.ref 19), (Value.int (198 : Int) 0), (Value.int (2 : Int) 0), (Value.str (Str.ofString "/claim/cut.py") 199)])) (List.toArray []))) ::
  (nat_lit 21, (Obj.mk (Value.type "function") none (Data.func (FuncData.mk (Str.ofString "rgb_to_yiq") (Str.ofString "rgb_to_yiq") (fnArgs 1) (FuncBody.stmts (fnBody 1)) (fnScope 1) 3 [] Value.none Value.none Value.none (Value.str (Str.ofString "cpy313.colorsys") 187) none (Value.ref 20) Value.none 0)) (List.toArray []))) ::
  (nat_lit 22, (Obj.mk (Value.type "tuple") none (Data.seq (List.toArray []) 0) (List.toArray []))) ::
  (nat_lit 24, (Obj.mk (Value.type "tuple") none (Data.seq (List.toArray [(Value.str (Str.ofString "r") 204), (Value.str (Str.ofString "g") 205), (Value.str (Str.ofString "b") 206), (Value.str (Str.ofString "maxc") 207), (Value.str (Str.ofString "minc") 208), (Value.str (Str.ofString "sumc") 209), (Value.str (Str.ofString "rangec") 210), (Value.str (Str.ofString "l") 211), (Value.str (Str.ofString "s") 212), (Value.str (Str.ofString "rc") 213), (Value.str (Str.ofString "gc") 214), (Value.str (Str.ofString "bc") 215), (Value.str (Str.ofString "h") 216)]) 0) (List.toArray []))) ::
  (nat_lit 25, (Obj.mk (Value.type "tuple") none (Data.seq (List.toArray []) 0) (List.toArray []))) ::
  (nat_lit 27, (Obj.mk (Value.type "code") none (Data.fields (List.toArray [(Value.str (Str.ofString "rgb_to_hls") 201), (Value.str (Str.ofString "rgb_to_hls") 202), (Value.str (Str.ofString "/claim/cut.py") 203), (Value.int (7 : Int) 0), (Value.int (3 : Int) 0), (Value.int (0 : Int) 0), (Value.int (0 : Int) 0), (Value.int (3 : Int) 0), (Value.ref 22), (Value.bool Bool.true), (Value.int (181 : Int) 0), (Value.ref 23), Value.none, (Value.ref 24), (Value.ref 25), (Value.ref 26), (Value.int (217 : Int) 0), (Value.int (7 : Int) 0), (Value.str (Str.ofString "/claim/cut.py") 218)])) (List.toArray []))) ::
  (nat_lit 28, (Obj.mk (Value.type "function") none (Data.func (FuncData.mk (Str.ofString "rgb_to_hls") (Str.ofString "rgb_to_hls") (fnArgs 2) (FuncBody.stmts (fnBody 2)) (fnScope 2) 3 [] Value.none Value.none Value.none (Value.str (Str.ofString "cpy313.colorsys") 187) none (Value.ref 27) Value.none 0)) (List.toArray []))) ::
  (nat_lit 29, (Obj.mk (Value.type "tuple") none (Data.seq (List.toArray []) 0) (List.toArray []))) ::
  (nat_lit 31, (Obj.mk (Value.type "tuple") none (Data.seq (List.toArray [(Value.str (Str.ofString "r") 223), (Value.str (Str.ofString "g") 224), (Value.str (Str.ofString "b") 225), (Value.str (Str.ofString "maxc") 226), (Value.str (Str.ofString "minc") 227), (Value.str (Str.ofString "rangec") 228), (Value.str (Str.ofString "v") 229), (Value.str (Str.ofString "s") 230), (Value.str (Str.ofString "rc") 231), (Value.str (Str.ofString "gc") 232), (Value.str (Str.ofString "bc") 233), (Value.str (Str.ofString "h") 234)]) 0) (List.toArray []))) ::
  (nat_lit 32, (Obj.mk (Value.type "tuple") none (Data.seq (List.toArray []) 0) (List.toArray []))) ::
  (nat_lit 34, (Obj.mk (Value.type "code") none (Data.fields (List.toArray [(Value.str (Str.ofString "rgb_to_hsv") 220), (Value.str (Str.ofString "rgb_to_hsv") 221), (Value.str (Str.ofString "/claim/cut.py") 222), (Value.int (30 : Int) 0), (Value.int (3 : Int) 0), (Value.int (0 : Int) 0), (Value.int (0 : Int) 0), (Value.int (3 : Int) 0), (Value.ref 29), (Value.bool Bool.true), (Value.int (181 : Int) 0), (Value.ref 30), Value.none, (Value.ref 31), (Value.ref 32), (Value.ref 33), (Value.int (235 : Int) 0), (Value.int (30 : Int) 0), (Value.str (Str.ofString "/claim/cut.py") 236)])) (List.toArray []))) ::
  (nat_lit 35, (Obj.mk (Value.type "function") none (Data.func (FuncData.mk (Str.ofString "rgb_to_hsv") (Str.ofString "rgb_to_hsv") (fnArgs 3) (FuncBody.stmts (fnBody 3)) (fnScope 3) 3 [] Value.none Value.none Value.none (Value.str (Str.ofString "cpy313.colorsys") 187) none (Value.ref 34) Value.none 0)) (List.toArray []))) ::
  (nat_lit 36, (Obj.mk (Value.type "tuple") none (Data.seq (List.toArray []) 0) (List.toArray []))) ::
  (nat_lit 38, (Obj.mk (Value.type "tuple") none (Data.seq (List.toArray [(Value.str (Str.ofString "grouping") 245), (Value.str (Str.ofString "last_interval") 246), (Value.str (Str.ofString "interval") 247)]) 0) (List.toArray []))) ::
  (nat_lit 39, (Obj.mk (Value.type "tuple") none (Data.seq (List.toArray []) 0) (List.toArray []))) ::
  (nat_lit 41, (Obj.mk (Value.type "code") none (Data.fields (List.toArray [(Value.str (Str.ofString "_grouping_intervals") 242), (Value.str (Str.ofString "_grouping_intervals") 243), (Value.str (Str.ofString "/claim/cut.py") 244), (Value.int (51 : Int) 0), (Value.int (1 : Int) 0), (Value.int (0 : Int) 0), (Value.int (0 : Int) 0), (Value.int (35 : Int) 0), (Value.ref 36), (Value.bool Bool.true), (Value.int (181 : Int) 0), (Value.ref 37), Value.none, (Value.ref 38), (Value.ref 39), (Value.ref 40), (Value.int (248 : Int) 0), (Value.int (51 : Int) 0), (Value.str (Str.ofString "/claim/cut.py") 249)])) (List.toArray []))) ::
  (nat_lit 42, (Obj.mk (Value.type "function") none (Data.func (FuncData.mk (Str.ofString "_grouping_intervals") (Str.ofString "_grouping_intervals") (fnArgs 6) (FuncBody.stmts (fnBody 6)) (fnScope 6) 3 [] Value.none Value.none Value.none (Value.str (Str.ofString "cpy313.locale") 238) none (Value.ref 41) Value.none 0)) (List.toArray []))) ::
  (nat_lit 54, (Obj.mk (Value.type "tuple") none (Data.seq (List.toArray []) 0) (List.toArray []))) ::
  (nat_lit 56, (Obj.mk (Value.type "tuple") none (Data.seq (List.toArray [(Value.str (Str.ofString "code") 316)]) 0) (List.toArray []))) ::
  (nat_lit 57, (Obj.mk (Value.type "tuple") none (Data.seq (List.toArray []) 0) (List.toArray []))) ::
  (nat_lit 59, (Obj.mk (Value.type "code") none (Data.fields (List.toArray [(Value.str (Str.ofString "in_table_b1") 313), (Value.str (Str.ofString "in_table_b1") 314), (Value.str (Str.ofString "/claim/cut.py") 315), (Value.int (65 : Int) 0), (Value.int (1 : Int) 0), (Value.int (0 : Int) 0), (Value.int (0 : Int) 0), (Value.int (3 : Int) 0), (Value.ref 54), (Value.bool Bool.true), (Value.int (181 : Int) 0), (Value.ref 55), Value.none, (Value.ref 56), (Value.ref 57), (Value.ref 58), (Value.int (317 : Int) 0), (Value.int (65 : Int) 0), (Value.str (Str.ofString "/claim/cut.py") 318)])) (List.toArray []))) ::
  (nat_lit 60, (Obj.mk (Value.type "function") none (Data.func (FuncData.mk (Str.ofString "in_table_b1") (Str.ofString "in_table_b1") (fnArgs 9) (FuncBody.stmts (fnBody 9)) (fnScope 9) 3 [] Value.none Value.none Value.none (Value.str (Str.ofString "cpy313.stringprep") 251) none (Value.ref 59) Value.none 0)) (List.toArray []))) ::
  (nat_lit 61, dictOb entB3 650) ::
  (nat_lit 100, (Obj.mk (Value.type "tuple") none (Data.seq (List.toArray []) 0) (List.toArray []))) ::
  (nat_lit 102, (Obj.mk (Value.type "tuple") none (Data.seq (List.toArray [(Value.str (Str.ofString "code") 2274), (Value.str (Str.ofString "r") 2275)]) 0) (List.toArray []))) ::
  (nat_lit 103, (Obj.mk (Value.type "tuple") none (Data.seq (List.toArray []) 0) (List.toArray []))) ::
  (nat_lit 105, (Obj.mk (Value.type "code") none (Data.fields (List.toArray [(Value.str (Str.ofString "map_table_b3") 2271), (Value.str (Str.ofString "map_table_b3") 2272), (Value.str (Str.ofString "/claim/cut.py") 2273), (Value.int (68 : Int) 0), (Value.int (1 : Int) 0), (Value.int (0 : Int) 0), (Value.int (0 : Int) 0), (Value.int (3 : Int) 0), (Value.ref 100), (Value.bool Bool.true), (Value.int (181 : Int) 0), (Value.ref 101), Value.none, (Value.ref 102), (Value.ref 103), (Value.ref 104), (Value.int (2276 : Int) 0), (Value.int (68 : Int) 0), (Value.str (Str.ofString "/claim/cut.py") 2277)])) (List.toArray []))) ::
  (nat_lit 106, (Obj.mk (Value.type "function") none (Data.func (FuncData.mk (Str.ofString "map_table_b3") (Str.ofString "map_table_b3") (fnArgs 11) (FuncBody.stmts (fnBody 11)) (fnScope 11) 3 [] Value.none Value.none Value.none (Value.str (Str.ofString "cpy313.stringprep") 251) none (Value.ref 105) Value.none 0)) (List.toArray []))) ::
  (nat_lit 107, (Obj.mk (Value.type "tuple") none (Data.seq (List.toArray []) 0) (List.toArray []))) ::
  (nat_lit 110, (Obj.mk (Value.type "code") none (Data.fields (List.toArray [(Value.str (Str.ofString "_law_draws") 2281), (Value.str (Str.ofString "_law_draws") 2282), (Value.str (Str.ofString "/claim/cut.py") 2283), (Value.int (74 : Int) 0), (Value.int (2 : Int) 0), (Value.int (0 : Int) 0), (Value.int (0 : Int) 0), (Value.int (3 : Int) 0), (Value.ref 107), (Value.bool Bool.true), (Value.int (181 : Int) 0), (Value.ref 108), Value.none, Value.none, Value.none, (Value.ref 109), (Value.int (2284 : Int) 0), (Value.int (74 : Int) 0), (Value.str (Str.ofString "/claim/cut.py") 2285)])) (List.toArray []))) ::
  (nat_lit 111, (Obj.mk (Value.type "function") none (Data.func (FuncData.mk (Str.ofString "_law_draws") (Str.ofString "_law_draws") (fnArgs 13) (FuncBody.stmts (fnBody 13)) (fnScope 13) 3 [] Value.none Value.none Value.none (Value.str (Str.ofString "law_tp0035_01") 2279) none (Value.ref 110) Value.none 0)) (List.toArray []))) ::
  (nat_lit 112, (Obj.mk (Value.type "tuple") none (Data.seq (List.toArray []) 0) (List.toArray []))) ::
  (nat_lit 115, (Obj.mk (Value.type "code") none (Data.fields (List.toArray [(Value.str (Str.ofString "_law_sizes") 2287), (Value.str (Str.ofString "_law_sizes") 2288), (Value.str (Str.ofString "/claim/cut.py") 2289), (Value.int (76 : Int) 0), (Value.int (1 : Int) 0), (Value.int (0 : Int) 0), (Value.int (0 : Int) 0), (Value.int (3 : Int) 0), (Value.ref 112), (Value.bool Bool.true), (Value.int (181 : Int) 0), (Value.ref 113), Value.none, Value.none, Value.none, (Value.ref 114), (Value.int (2290 : Int) 0), (Value.int (76 : Int) 0), (Value.str (Str.ofString "/claim/cut.py") 2291)])) (List.toArray []))) ::
  (nat_lit 116, (Obj.mk (Value.type "function") none (Data.func (FuncData.mk (Str.ofString "_law_sizes") (Str.ofString "_law_sizes") (fnArgs 14) (FuncBody.stmts (fnBody 14)) (fnScope 14) 3 [] Value.none Value.none Value.none (Value.str (Str.ofString "law_tp0035_01") 2279) none (Value.ref 115) Value.none 0)) (List.toArray []))) ::
  (nat_lit 117, (Obj.mk (Value.type "tuple") none (Data.seq (List.toArray []) 0) (List.toArray []))) ::
  (nat_lit 119, (Obj.mk (Value.type "tuple") none (Data.seq (List.toArray [(Value.str (Str.ofString "number") 2296), (Value.str (Str.ofString "first") 2297), (Value.str (Str.ofString "second") 2298), (Value.str (Str.ofString "third") 2299), (Value.str (Str.ofString "fourth") 2300), (Value.str (Str.ofString "rows") 2301), (Value.str (Str.ofString "marks") 2302), (Value.str (Str.ofString "mark") 2303), (Value.str (Str.ofString "size") 2304)]) 0) (List.toArray []))) ::
  (nat_lit 120, (Obj.mk (Value.type "tuple") none (Data.seq (List.toArray []) 0) (List.toArray []))) ::
  (nat_lit 122, (Obj.mk (Value.type "code") none (Data.fields (List.toArray [(Value.str (Str.ofString "_law_marks") 2293), (Value.str (Str.ofString "_law_marks") 2294), (Value.str (Str.ofString "/claim/cut.py") 2295), (Value.int (78 : Int) 0), (Value.int (1 : Int) 0), (Value.int (0 : Int) 0), (Value.int (0 : Int) 0), (Value.int (3 : Int) 0), (Value.ref 117), (Value.bool Bool.true), (Value.int (181 : Int) 0), (Value.ref 118), Value.none, (Value.ref 119), (Value.ref 120), (Value.ref 121), (Value.int (2305 : Int) 0), (Value.int (78 : Int) 0), (Value.str (Str.ofString "/claim/cut.py") 2306)])) (List.toArray []))) ::
  (nat_lit 123, (Obj.mk (Value.type "function") none (Data.func (FuncData.mk (Str.ofString "_law_marks") (Str.ofString "_law_marks") (fnArgs 15) (FuncBody.stmts (fnBody 15)) (fnScope 15) 3 [] Value.none Value.none Value.none (Value.str (Str.ofString "law_tp0035_01") 2279) none (Value.ref 122) Value.none 0)) (List.toArray []))) ::
  (nat_lit 124, (Obj.mk (Value.type "tuple") none (Data.seq (List.toArray []) 0) (List.toArray []))) ::
  (nat_lit 127, (Obj.mk (Value.type "code") none (Data.fields (List.toArray [(Value.str (Str.ofString "_law_levels") 2308), (Value.str (Str.ofString "_law_levels") 2309), (Value.str (Str.ofString "/claim/cut.py") 2310), (Value.int (89 : Int) 0), (Value.int (1 : Int) 0), (Value.int (0 : Int) 0), (Value.int (0 : Int) 0), (Value.int (3 : Int) 0), (Value.ref 124), (Value.bool Bool.true), (Value.int (181 : Int) 0), (Value.ref 125), Value.none, Value.none, Value.none, (Value.ref 126), (Value.int (2311 : Int) 0), (Value.int (89 : Int) 0), (Value.str (Str.ofString "/claim/cut.py") 2312)])) (List.toArray []))) ::
  (nat_lit 128, (Obj.mk (Value.type "function") none (Data.func (FuncData.mk (Str.ofString "_law_levels") (Str.ofString "_law_levels") (fnArgs 16) (FuncBody.stmts (fnBody 16)) (fnScope 16) 3 [] Value.none Value.none Value.none (Value.str (Str.ofString "law_tp0035_01") 2279) none (Value.ref 127) Value.none 0)) (List.toArray []))) ::
  (nat_lit 129, (Obj.mk (Value.type "tuple") none (Data.seq (List.toArray []) 0) (List.toArray []))) ::
  (nat_lit 131, (Obj.mk (Value.type "tuple") none (Data.seq (List.toArray [(Value.str (Str.ofString "number") 2317), (Value.str (Str.ofString "rest") 2318), (Value.str (Str.ofString "text") 2319), (Value.str (Str.ofString "size") 2320), (Value.str (Str.ofString "letter") 2321), (Value.str (Str.ofString "base") 2322)]) 0) (List.toArray []))) ::
  (nat_lit 132, (Obj.mk (Value.type "tuple") none (Data.seq (List.toArray []) 0) (List.toArray []))) ::
  (nat_lit 134, (Obj.mk (Value.type "code") none (Data.fields (List.toArray [(Value.str (Str.ofString "_law_typed") 2314), (Value.str (Str.ofString "_law_typed") 2315), (Value.str (Str.ofString "/claim/cut.py") 2316), (Value.int (93 : Int) 0), (Value.int (1 : Int) 0), (Value.int (0 : Int) 0), (Value.int (0 : Int) 0), (Value.int (3 : Int) 0), (Value.ref 129), (Value.bool Bool.true), (Value.int (181 : Int) 0), (Value.ref 130), Value.none, (Value.ref 131), (Value.ref 132), (Value.ref 133), (Value.int (2323 : Int) 0), (Value.int (93 : Int) 0), (Value.str (Str.ofString "/claim/cut.py") 2324)])) (List.toArray []))) ::
  (nat_lit 135, (Obj.mk (Value.type "function") none (Data.func (FuncData.mk (Str.ofString "_law_typed") (Str.ofString "_law_typed") (fnArgs 17) (FuncBody.stmts (fnBody 17)) (fnScope 17) 3 [] Value.none Value.none Value.none (Value.str (Str.ofString "law_tp0035_01") 2279) none (Value.ref 134) Value.none 0)) (List.toArray []))) ::
  (nat_lit 136, (Obj.mk (Value.type "tuple") none (Data.seq (List.toArray []) 0) (List.toArray []))) ::
  (nat_lit 139, (Obj.mk (Value.type "code") none (Data.fields (List.toArray [(Value.str (Str.ofString "_law_dealt") 2326), (Value.str (Str.ofString "_law_dealt") 2327), (Value.str (Str.ofString "/claim/cut.py") 2328), (Value.int (103 : Int) 0), (Value.int (2 : Int) 0), (Value.int (0 : Int) 0), (Value.int (0 : Int) 0), (Value.int (3 : Int) 0), (Value.ref 136), (Value.bool Bool.true), (Value.int (181 : Int) 0), (Value.ref 137), Value.none, Value.none, Value.none, (Value.ref 138), (Value.int (2329 : Int) 0), (Value.int (103 : Int) 0), (Value.str (Str.ofString "/claim/cut.py") 2330)])) (List.toArray []))) ::
  (nat_lit 140, (Obj.mk (Value.type "function") none (Data.func (FuncData.mk (Str.ofString "_law_dealt") (Str.ofString "_law_dealt") (fnArgs 18) (FuncBody.stmts (fnBody 18)) (fnScope 18) 3 [] Value.none Value.none Value.none (Value.str (Str.ofString "law_tp0035_01") 2279) none (Value.ref 139) Value.none 0)) (List.toArray []))) ::
  (nat_lit 141, (Obj.mk (Value.type "tuple") none (Data.seq (List.toArray []) 0) (List.toArray []))) ::
  (nat_lit 143, (Obj.mk (Value.type "tuple") none (Data.seq (List.toArray [(Value.str (Str.ofString "palette") 2335), (Value.str (Str.ofString "tops") 2336), (Value.str (Str.ofString "lows") 2337), (Value.str (Str.ofString "tints") 2338), (Value.str (Str.ofString "red") 2339), (Value.str (Str.ofString "green") 2340), (Value.str (Str.ofString "blue") 2341), (Value.str (Str.ofString "value") 2342), (Value.str (Str.ofString "lightness") 2343), (Value.str (Str.ofString "luma") 2344), (Value.str (Str.ofString "warm") 2345), (Value.str (Str.ofString "cool") 2346)]) 0) (List.toArray []))) ::
  (nat_lit 144, (Obj.mk (Value.type "tuple") none (Data.seq (List.toArray []) 0) (List.toArray []))) ::
  (nat_lit 146, (Obj.mk (Value.type "code") none (Data.fields (List.toArray [(Value.str (Str.ofString "_law_seen") 2332), (Value.str (Str.ofString "_law_seen") 2333), (Value.str (Str.ofString "/claim/cut.py") 2334), (Value.int (106 : Int) 0), (Value.int (1 : Int) 0), (Value.int (0 : Int) 0), (Value.int (0 : Int) 0), (Value.int (3 : Int) 0), (Value.ref 141), (Value.bool Bool.true), (Value.int (181 : Int) 0), (Value.ref 142), Value.none, (Value.ref 143), (Value.ref 144), (Value.ref 145), (Value.int (2347 : Int) 0), (Value.int (106 : Int) 0), (Value.str (Str.ofString "/claim/cut.py") 2348)])) (List.toArray []))) ::
  (nat_lit 147, (Obj.mk (Value.type "function") none (Data.func (FuncData.mk (Str.ofString "_law_seen") (Str.ofString "_law_seen") (fnArgs 19) (FuncBody.stmts (fnBody 19)) (fnScope 19) 3 [] Value.none Value.none Value.none (Value.str (Str.ofString "law_tp0035_01") 2279) none (Value.ref 146) Value.none 0)) (List.toArray []))) ::
  (nat_lit 148, (Obj.mk (Value.type "tuple") none (Data.seq (List.toArray []) 0) (List.toArray []))) ::
  (nat_lit 151, (Obj.mk (Value.type "code") none (Data.fields (List.toArray [(Value.str (Str.ofString "_law_no_worse") 2350), (Value.str (Str.ofString "_law_no_worse") 2351), (Value.str (Str.ofString "/claim/cut.py") 2352), (Value.int (118 : Int) 0), (Value.int (2 : Int) 0), (Value.int (0 : Int) 0), (Value.int (0 : Int) 0), (Value.int (3 : Int) 0), (Value.ref 148), (Value.bool Bool.true), (Value.int (181 : Int) 0), (Value.ref 149), Value.none, Value.none, Value.none, (Value.ref 150), (Value.int (2353 : Int) 0), (Value.int (118 : Int) 0), (Value.str (Str.ofString "/claim/cut.py") 2354)])) (List.toArray []))) ::
  (nat_lit 152, (Obj.mk (Value.type "function") none (Data.func (FuncData.mk (Str.ofString "_law_no_worse") (Str.ofString "_law_no_worse") (fnArgs 20) (FuncBody.stmts (fnBody 20)) (fnScope 20) 3 [] Value.none Value.none Value.none (Value.str (Str.ofString "law_tp0035_01") 2279) none (Value.ref 151) Value.none 0)) (List.toArray []))) ::
  (nat_lit 153, (Obj.mk (Value.type "tuple") none (Data.seq (List.toArray []) 0) (List.toArray []))) ::
  (nat_lit 156, (Obj.mk (Value.type "code") none (Data.fields (List.toArray [(Value.str (Str.ofString "_law_untangled") 2356), (Value.str (Str.ofString "_law_untangled") 2357), (Value.str (Str.ofString "/claim/cut.py") 2358), (Value.int (128 : Int) 0), (Value.int (2 : Int) 0), (Value.int (0 : Int) 0), (Value.int (0 : Int) 0), (Value.int (3 : Int) 0), (Value.ref 153), (Value.bool Bool.true), (Value.int (181 : Int) 0), (Value.ref 154), Value.none, Value.none, Value.none, (Value.ref 155), (Value.int (2359 : Int) 0), (Value.int (128 : Int) 0), (Value.str (Str.ofString "/claim/cut.py") 2360)])) (List.toArray []))) ::
  (nat_lit 157, (Obj.mk (Value.type "function") none (Data.func (FuncData.mk (Str.ofString "_law_untangled") (Str.ofString "_law_untangled") (fnArgs 21) (FuncBody.stmts (fnBody 21)) (fnScope 21) 3 [] Value.none Value.none Value.none (Value.str (Str.ofString "law_tp0035_01") 2279) none (Value.ref 156) Value.none 0)) (List.toArray []))) ::
  (nat_lit 158, (Obj.mk (Value.type "tuple") none (Data.seq (List.toArray []) 0) (List.toArray []))) ::
  (nat_lit 160, (Obj.mk (Value.type "tuple") none (Data.seq (List.toArray [(Value.str (Str.ofString "script") 2365), (Value.str (Str.ofString "draws") 2366), (Value.str (Str.ofString "greens") 2367), (Value.str (Str.ofString "blues") 2368), (Value.str (Str.ofString "chain") 2369)]) 0) (List.toArray []))) ::
  (nat_lit 161, (Obj.mk (Value.type "tuple") none (Data.seq (List.toArray []) 0) (List.toArray []))) ::
  (nat_lit 163, (Obj.mk (Value.type "code") none (Data.fields (List.toArray [(Value.str (Str.ofString "law") 2362), (Value.str (Str.ofString "law") 2363), (Value.str (Str.ofString "/claim/cut.py") 2364), (Value.int (141 : Int) 0), (Value.int (1 : Int) 0), (Value.int (0 : Int) 0), (Value.int (0 : Int) 0), (Value.int (3 : Int) 0), (Value.ref 158), (Value.bool Bool.true), (Value.int (181 : Int) 0), (Value.ref 159), Value.none, (Value.ref 160), (Value.ref 161), (Value.ref 162), (Value.int (2370 : Int) 0), (Value.int (141 : Int) 0), (Value.str (Str.ofString "/claim/cut.py") 2371)])) (List.toArray []))) ::
  (nat_lit 164, (Obj.mk (Value.type "function") none (Data.func (FuncData.mk (Str.ofString "law") (Str.ofString "law") (fnArgs 22) (FuncBody.stmts (fnBody 22)) (fnScope 22) 3 [] Value.none Value.none Value.none (Value.str (Str.ofString "law_tp0035_01") 2279) none (Value.ref 163) Value.none 0)) (List.toArray []))) ::
  (nat_lit 50, (Obj.mk (Value.type "set") none (Data.set (List.toArray [((65024 : Int), (Value.int (65024 : Int) 269)), ((65025 : Int), (Value.int (65025 : Int) 270)), ((65026 : Int), (Value.int (65026 : Int) 271)), ((65027 : Int), (Value.int (65027 : Int) 272)), ((65028 : Int), (Value.int (65028 : Int) 273)), ((65029 : Int), (Value.int (65029 : Int) 274)), ((6150 : Int), (Value.int (6150 : Int) 255)), ((65030 : Int), (Value.int (65030 : Int) 275)), ((65031 : Int), (Value.int (65031 : Int) 276)), ((65032 : Int), (Value.int (65032 : Int) 277)), ((65033 : Int), (Value.int (65033 : Int) 278)), ((6155 : Int), (Value.int (6155 : Int) 256)), ((6156 : Int), (Value.int (6156 : Int) 257)), ((6157 : Int), (Value.int (6157 : Int) 258)), ((8203 : Int), (Value.int (8203 : Int) 259)), ((8204 : Int), (Value.int (8204 : Int) 260)), ((8205 : Int), (Value.int (8205 : Int) 261)), ((65034 : Int), (Value.int (65034 : Int) 279)), ((65035 : Int), (Value.int (65035 : Int) 280)), ((65036 : Int), (Value.int (65036 : Int) 281)), ((65037 : Int), (Value.int (65037 : Int) 282)), ((65038 : Int), (Value.int (65038 : Int) 283)), ((65039 : Int), (Value.int (65039 : Int) 284)), ((173 : Int), (Value.int (173 : Int) 253)), ((847 : Int), (Value.int (847 : Int) 254)), ((8288 : Int), (Value.int (8288 : Int) 262)), ((65279 : Int), (Value.int (65279 : Int) 263))]) 29 (SetTable.mk 127 (List.toArray [0, 1, 2, 3, 4, 5, 6, 7, 8, 9, 10, 11, 12, 13, 14, 15, 16, 17, 18, 19, 20, 21, 22, 45, 79, 96, 127]) (List.toArray []) 0 (!P.followText "set-order") 2 Bool.true)) (List.toArray []))) :: []
noncomputable def heapA : List Addr := [nat_lit 2, nat_lit 3, nat_lit 6, nat_lit 15, nat_lit 17, nat_lit 18, nat_lit 20, nat_lit 21, nat_lit 22, nat_lit 24, nat_lit 25, nat_lit 27, nat_lit 28, nat_lit 29, nat_lit 31, nat_lit 32, nat_lit 34, nat_lit 35, nat_lit 36, nat_lit 38, nat_lit 39, nat_lit 41, nat_lit 42, nat_lit 54, nat_lit 56, nat_lit 57, nat_lit 59, nat_lit 60, nat_lit 61, nat_lit 100, nat_lit 102, nat_lit 103, nat_lit 105, nat_lit 106, nat_lit 107, nat_lit 110, nat_lit 111, nat_lit 112, nat_lit 115, nat_lit 116, nat_lit 117, nat_lit 119, nat_lit 120, nat_lit 122, nat_lit 123, nat_lit 124, nat_lit 127, nat_lit 128, nat_lit 129, nat_lit 131, nat_lit 132, nat_lit 134, nat_lit 135, nat_lit 136, nat_lit 139, nat_lit 140, nat_lit 141, nat_lit 143, nat_lit 144, nat_lit 146, nat_lit 147, nat_lit 148, nat_lit 151, nat_lit 152, nat_lit 153, nat_lit 156, nat_lit 157, nat_lit 158, nat_lit 160, nat_lit 161, nat_lit 163, nat_lit 164, nat_lit 50]

noncomputable def viewQ : Program := { pw with main := { pw.main with body := [1, 2, 3, 5, 6, 8, 9, 10, 11, 13, 14, 15, 16, 17, 18, 19, 20, 21, 22].filterMap fun i => pw.main.body[i]? } }
noncomputable def looseQ : List Str := ["b1_set", "b3_exceptions"]
theorem keysK : ∀ P, heapA = (heapK P).map (·.1) := fun _ => by kernel_rfl
abbrev lawRow : OpenRow := OpenLaw.row PySem.Challenge.rw_tp0035_01
end Mine
end
section
open PySem PySem.W PyProof.Rows
set_option maxRecDepth 100000
set_option linter.unusedVariables false
namespace Mine
noncomputable section
noncomputable def o11 (P : Params) : Obj := (Obj.mk (Value.type "tuple") none (Data.seq (List.toArray []) 0) (List.toArray []))
noncomputable def o12 (P : Params) : Obj := (Obj.mk Value.none none (Data.fields (List.toArray [])) (List.toArray []))
noncomputable def o13 (P : Params) : Obj := (Obj.mk (Value.type "code") none (Data.fields (List.toArray [(Value.str (Str.ofString "<module>") 182), (Value.str (Str.ofString "<module>") 183), (Value.str (Str.ofString "/claim/cut.py") 184), (Value.int (1 : Int) 0), (Value.int (0 : Int) 0), (Value.int (0 : Int) 0), (Value.int (0 : Int) 0), (Value.int (0 : Int) 0), (Value.ref 11), (Value.bool Bool.false), (Value.int (181 : Int) 0), (Value.ref 12), Value.none, Value.none, Value.none, Value.none, (Value.int (185 : Int) 0), (Value.int (1 : Int) 0), (Value.str (Str.ofString "/claim/cut.py") 186)])) (List.toArray []))
noncomputable def o14 (P : Params) : Obj := (Obj.mk (Value.type "frame") none Data.plain (List.toArray [(Option.some (Value.ref 13)), (Option.some (Value.ref 3)), (Option.some (Value.ref 3)), none, (Option.some (Value.str (Str.ofString "__main__") 164)), none, (Option.some (Value.ref 0))]))
noncomputable def o3v0 (P : Params) : Obj := (Obj.mk (Value.type "dict") none (Data.dict (List.toArray [(DictEntry.mk (PyData.keyHash P (Str.ofString "__name__")) (Value.str (Str.ofString "__name__") 165) (Value.str (Str.ofString "cpy313.colorsys") 187)), (DictEntry.mk (PyData.keyHash P (Str.ofString "__doc__")) (Value.str (Str.ofString "__doc__") 166) Value.none), (DictEntry.mk (PyData.keyHash P (Str.ofString "__package__")) (Value.str (Str.ofString "__package__") 167) Value.none), (DictEntry.mk (PyData.keyHash P (Str.ofString "__loader__")) (Value.str (Str.ofString "__loader__") 168) (Value.builtin "__main__.__loader__#opaque")), (DictEntry.mk (PyData.keyHash P (Str.ofString "__spec__")) (Value.str (Str.ofString "__spec__") 169) Value.none), (DictEntry.mk (PyData.keyHash P (Str.ofString "__annotations__")) (Value.str (Str.ofString "__annotations__") 170) (Value.ref 6)), (DictEntry.mk (PyData.keyHash P (Str.ofString "__builtins__")) (Value.str (Str.ofString "__builtins__") 171) (Value.ref 4)), (DictEntry.mk (PyData.keyHash P (Str.ofString "__file__")) (Value.str (Str.ofString "__file__") 173) (Value.str (Str.ofString "/claim/cut.py") 172)), (DictEntry.mk (PyData.keyHash P (Str.ofString "__cached__")) (Value.str (Str.ofString "__cached__") 174) Value.none)]) 9) (List.toArray []))
noncomputable def o3v1 (P : Params) : Obj := (Obj.mk (Value.type "dict") none (Data.dict (List.toArray [(DictEntry.mk (PyData.keyHash P (Str.ofString "__name__")) (Value.str (Str.ofString "__name__") 165) (Value.str (Str.ofString "cpy313.colorsys") 187)), (DictEntry.mk (PyData.keyHash P (Str.ofString "__doc__")) (Value.str (Str.ofString "__doc__") 166) Value.none), (DictEntry.mk (PyData.keyHash P (Str.ofString "__package__")) (Value.str (Str.ofString "__package__") 167) Value.none), (DictEntry.mk (PyData.keyHash P (Str.ofString "__loader__")) (Value.str (Str.ofString "__loader__") 168) (Value.builtin "__main__.__loader__#opaque")), (DictEntry.mk (PyData.keyHash P (Str.ofString "__spec__")) (Value.str (Str.ofString "__spec__") 169) Value.none), (DictEntry.mk (PyData.keyHash P (Str.ofString "__annotations__")) (Value.str (Str.ofString "__annotations__") 170) (Value.ref 6)), (DictEntry.mk (PyData.keyHash P (Str.ofString "__builtins__")) (Value.str (Str.ofString "__builtins__") 171) (Value.ref 4)), (DictEntry.mk (PyData.keyHash P (Str.ofString "__file__")) (Value.str (Str.ofString "__file__") 173) (Value.str (Str.ofString "/claim/cut.py") 172)), (DictEntry.mk (PyData.keyHash P (Str.ofString "__cached__")) (Value.str (Str.ofString "__cached__") 174) Value.none), (DictEntry.mk (PyData.keyHash P (Str.ofString "rgb_to_yiq")) (Value.str (Str.ofString "rgb_to_yiq") 200) (Value.ref 21))]) 10) (List.toArray []))
noncomputable def o12v1 (P : Params) : Obj := (Obj.mk Value.none none (Data.fields (List.toArray [(Value.int (2 : Int) 0), (Value.int (0 : Int) 0), (Value.ref 20)])) (List.toArray []))
noncomputable def o15 (P : Params) : Obj := (Obj.mk (Value.type "tuple") none (Data.seq (List.toArray []) 0) (List.toArray []))
noncomputable def o16 (P : Params) : Obj := (Obj.mk Value.none none (Data.fields (List.toArray [])) (List.toArray []))
noncomputable def o17 (P : Params) : Obj := (Obj.mk (Value.type "tuple") none (Data.seq (List.toArray [(Value.str (Str.ofString "r") 192), (Value.str (Str.ofString "g") 193), (Value.str (Str.ofString "b") 194), (Value.str (Str.ofString "y") 195), (Value.str (Str.ofString "i") 196), (Value.str (Str.ofString "q") 197)]) 0) (List.toArray []))
noncomputable def o18 (P : Params) : Obj := (Obj.mk (Value.type "tuple") none (Data.seq (List.toArray []) 0) (List.toArray []))
noncomputable def o19 (P : Params) : Obj := (Obj.mk Value.none none (Data.func (FuncData.mk (Str.ofString "rgb_to_yiq") (Str.ofString "rgb_to_yiq") (fnArgs 1) (FuncBody.stmts (fnBody 1)) (fnScope 1) 0 [] Value.none Value.none Value.none Value.none none Value.none Value.none 0)) (List.toArray []))
noncomputable def o20 (P : Params) : Obj := (Obj.mk (Value.type "code") none (Data.fields (List.toArray [(Value.str (Str.ofString "rgb_to_yiq") 189), (Value.str (Str.ofString "rgb_to_yiq") 190), (Value.str (Str.ofString "/claim/cut.py") 191), (Value.int (2 : Int) 0), (Value.int (3 : Int) 0), (Value.int (0 : Int) 0), (Value.int (0 : Int) 0), (Value.int (3 : Int) 0), (Value.ref 15), (Value.bool Bool.true), (Value.int (181 : Int) 0), (Value.ref 16), Value.none, (Value.ref 17), (Value.ref 18), (Value.ref 19), (Value.int (198 : Int) 0), (Value.int (2 : Int) 0), (Value.str (Str.ofString "/claim/cut.py") 199)])) (List.toArray []))
noncomputable def o21 (P : Params) : Obj := (Obj.mk (Value.type "function") none (Data.func (FuncData.mk (Str.ofString "rgb_to_yiq") (Str.ofString "rgb_to_yiq") (fnArgs 1) (FuncBody.stmts (fnBody 1)) (fnScope 1) 3 [] Value.none Value.none Value.none (Value.str (Str.ofString "cpy313.colorsys") 187) none (Value.ref 20) Value.none 0)) (List.toArray []))
noncomputable def o3v2 (P : Params) : Obj := (Obj.mk (Value.type "dict") none (Data.dict (List.toArray [(DictEntry.mk (PyData.keyHash P (Str.ofString "__name__")) (Value.str (Str.ofString "__name__") 165) (Value.str (Str.ofString "cpy313.colorsys") 187)), (DictEntry.mk (PyData.keyHash P (Str.ofString "__doc__")) (Value.str (Str.ofString "__doc__") 166) Value.none), (DictEntry.mk (PyData.keyHash P (Str.ofString "__package__")) (Value.str (Str.ofString "__package__") 167) Value.none), (DictEntry.mk (PyData.keyHash P (Str.ofString "__loader__")) (Value.str (Str.ofString "__loader__") 168) (Value.builtin "__main__.__loader__#opaque")), (DictEntry.mk (PyData.keyHash P (Str.ofString "__spec__")) (Value.str (Str.ofString "__spec__") 169) Value.none), (DictEntry.mk (PyData.keyHash P (Str.ofString "__annotations__")) (Value.str (Str.ofString "__annotations__") 170) (Value.ref 6)), (DictEntry.mk (PyData.keyHash P (Str.ofString "__builtins__")) (Value.str (Str.ofString "__builtins__") 171) (Value.ref 4)), (DictEntry.mk (PyData.keyHash P (Str.ofString "__file__")) (Value.str (Str.ofString "__file__") 173) (Value.str (Str.ofString "/claim/cut.py") 172)), (DictEntry.mk (PyData.keyHash P (Str.ofString "__cached__")) (Value.str (Str.ofString "__cached__") 174) Value.none), (DictEntry.mk (PyData.keyHash P (Str.ofString "rgb_to_yiq")) (Value.str (Str.ofString "rgb_to_yiq") 200) (Value.ref 21)), (DictEntry.mk (PyData.keyHash P (Str.ofString "rgb_to_hls")) (Value.str (Str.ofString "rgb_to_hls") 219) (Value.ref 28))]) 11) (List.toArray []))
noncomputable def o12v2 (P : Params) : Obj := (Obj.mk Value.none none (Data.fields (List.toArray [(Value.int (2 : Int) 0), (Value.int (0 : Int) 0), (Value.ref 20), (Value.int (7 : Int) 0), (Value.int (0 : Int) 0), (Value.ref 27)])) (List.toArray []))
noncomputable def o22 (P : Params) : Obj := (Obj.mk (Value.type "tuple") none (Data.seq (List.toArray []) 0) (List.toArray []))
noncomputable def o23 (P : Params) : Obj := (Obj.mk Value.none none (Data.fields (List.toArray [])) (List.toArray []))
noncomputable def o24 (P : Params) : Obj := (Obj.mk (Value.type "tuple") none (Data.seq (List.toArray [(Value.str (Str.ofString "r") 204), (Value.str (Str.ofString "g") 205), (Value.str (Str.ofString "b") 206), (Value.str (Str.ofString "maxc") 207), (Value.str (Str.ofString "minc") 208), (Value.str (Str.ofString "sumc") 209), (Value.str (Str.ofString "rangec") 210), (Value.str (Str.ofString "l") 211), (Value.str (Str.ofString "s") 212), (Value.str (Str.ofString "rc") 213), (Value.str (Str.ofString "gc") 214), (Value.str (Str.ofString "bc") 215), (Value.str (Str.ofString "h") 216)]) 0) (List.toArray []))
noncomputable def o25 (P : Params) : Obj := (Obj.mk (Value.type "tuple") none (Data.seq (List.toArray []) 0) (List.toArray []))
noncomputable def o26 (P : Params) : Obj := (Obj.mk Value.none none (Data.func (FuncData.mk (Str.ofString "rgb_to_hls") (Str.ofString "rgb_to_hls") (fnArgs 2) (FuncBody.stmts (fnBody 2)) (fnScope 2) 0 [] Value.none Value.none Value.none Value.none none Value.none Value.none 0)) (List.toArray []))
noncomputable def o27 (P : Params) : Obj := (Obj.mk (Value.type "code") none (Data.fields (List.toArray [(Value.str (Str.ofString "rgb_to_hls") 201), (Value.str (Str.ofString "rgb_to_hls") 202), (Value.str (Str.ofString "/claim/cut.py") 203), (Value.int (7 : Int) 0), (Value.int (3 : Int) 0), (Value.int (0 : Int) 0), (Value.int (0 : Int) 0), (Value.int (3 : Int) 0), (Value.ref 22), (Value.bool Bool.true), (Value.int (181 : Int) 0), (Value.ref 23), Value.none, (Value.ref 24), (Value.ref 25), (Value.ref 26), (Value.int (217 : Int) 0), (Value.int (7 : Int) 0), (Value.str (Str.ofString "/claim/cut.py") 218)])) (List.toArray []))
noncomputable def o28 (P : Params) : Obj := (Obj.mk (Value.type "function") none (Data.func (FuncData.mk (Str.ofString "rgb_to_hls") (Str.ofString "rgb_to_hls") (fnArgs 2) (FuncBody.stmts (fnBody 2)) (fnScope 2) 3 [] Value.none Value.none Value.none (Value.str (Str.ofString "cpy313.colorsys") 187) none (Value.ref 27) Value.none 0)) (List.toArray []))
noncomputable def o3v3 (P : Params) : Obj := (Obj.mk (Value.type "dict") none (Data.dict (List.toArray [(DictEntry.mk (PyData.keyHash P (Str.ofString "__name__")) (Value.str (Str.ofString "__name__") 165) (Value.str (Str.ofString "cpy313.colorsys") 187)), (DictEntry.mk (PyData.keyHash P (Str.ofString "__doc__")) (Value.str (Str.ofString "__doc__") 166) Value.none), (DictEntry.mk (PyData.keyHash P (Str.ofString "__package__")) (Value.str (Str.ofString "__package__") 167) Value.none), (DictEntry.mk (PyData.keyHash P (Str.ofString "__loader__")) (Value.str (Str.ofString "__loader__") 168) (Value.builtin "__main__.__loader__#opaque")), (DictEntry.mk (PyData.keyHash P (Str.ofString "__spec__")) (Value.str (Str.ofString "__spec__") 169) Value.none), (DictEntry.mk (PyData.keyHash P (Str.ofString "__annotations__")) (Value.str (Str.ofString "__annotations__") 170) (Value.ref 6)), (DictEntry.mk (PyData.keyHash P (Str.ofString "__builtins__")) (Value.str (Str.ofString "__builtins__") 171) (Value.ref 4)), (DictEntry.mk (PyData.keyHash P (Str.ofString "__file__")) (Value.str (Str.ofString "__file__") 173) (Value.str (Str.ofString "/claim/cut.py") 172)), (DictEntry.mk (PyData.keyHash P (Str.ofString "__cached__")) (Value.str (Str.ofString "__cached__") 174) Value.none), (DictEntry.mk (PyData.keyHash P (Str.ofString "rgb_to_yiq")) (Value.str (Str.ofString "rgb_to_yiq") 200) (Value.ref 21)), (DictEntry.mk (PyData.keyHash P (Str.ofString "rgb_to_hls")) (Value.str (Str.ofString "rgb_to_hls") 219) (Value.ref 28)), (DictEntry.mk (PyData.keyHash P (Str.ofString "rgb_to_hsv")) (Value.str (Str.ofString "rgb_to_hsv") 237) (Value.ref 35))]) 12) (List.toArray []))
noncomputable def o12v3 (P : Params) : Obj := (Obj.mk Value.none none (Data.fields (List.toArray [(Value.int (2 : Int) 0), (Value.int (0 : Int) 0), (Value.ref 20), (Value.int (7 : Int) 0), (Value.int (0 : Int) 0), (Value.ref 27), (Value.int (30 : Int) 0), (Value.int (0 : Int) 0), (Value.ref 34)])) (List.toArray []))
noncomputable def o29 (P : Params) : Obj := (Obj.mk (Value.type "tuple") none (Data.seq (List.toArray []) 0) (List.toArray []))
noncomputable def o30 (P : Params) : Obj := (Obj.mk Value.none none (Data.fields (List.toArray [])) (List.toArray []))
noncomputable def o31 (P : Params) : Obj := (Obj.mk (Value.type "tuple") none (Data.seq (List.toArray [(Value.str (Str.ofString "r") 223), (Value.str (Str.ofString "g") 224), (Value.str (Str.ofString "b") 225), (Value.str (Str.ofString "maxc") 226), (Value.str (Str.ofString "minc") 227), (Value.str (Str.ofString "rangec") 228), (Value.str (Str.ofString "v") 229), (Value.str (Str.ofString "s") 230), (Value.str (Str.ofString "rc") 231), (Value.str (Str.ofString "gc") 232), (Value.str (Str.ofString "bc") 233), (Value.str (Str.ofString "h") 234)]) 0) (List.toArray []))
noncomputable def o32 (P : Params) : Obj := (Obj.mk (Value.type "tuple") none (Data.seq (List.toArray []) 0) (List.toArray []))
noncomputable def o33 (P : Params) : Obj := (Obj.mk Value.none none (Data.func (FuncData.mk (Str.ofString "rgb_to_hsv") (Str.ofString "rgb_to_hsv") (fnArgs 3) (FuncBody.stmts (fnBody 3)) (fnScope 3) 0 [] Value.none Value.none Value.none Value.none none Value.none Value.none 0)) (List.toArray []))
noncomputable def o34 (P : Params) : Obj := (Obj.mk (Value.type "code") none (Data.fields (List.toArray [(Value.str (Str.ofString "rgb_to_hsv") 220), (Value.str (Str.ofString "rgb_to_hsv") 221), (Value.str (Str.ofString "/claim/cut.py") 222), (Value.int (30 : Int) 0), (Value.int (3 : Int) 0), (Value.int (0 : Int) 0), (Value.int (0 : Int) 0), (Value.int (3 : Int) 0), (Value.ref 29), (Value.bool Bool.true), (Value.int (181 : Int) 0), (Value.ref 30), Value.none, (Value.ref 31), (Value.ref 32), (Value.ref 33), (Value.int (235 : Int) 0), (Value.int (30 : Int) 0), (Value.str (Str.ofString "/claim/cut.py") 236)])) (List.toArray []))
noncomputable def o35 (P : Params) : Obj := (Obj.mk (Value.type "function") none (Data.func (FuncData.mk (Str.ofString "rgb_to_hsv") (Str.ofString "rgb_to_hsv") (fnArgs 3) (FuncBody.stmts (fnBody 3)) (fnScope 3) 3 [] Value.none Value.none Value.none (Value.str (Str.ofString "cpy313.colorsys") 187) none (Value.ref 34) Value.none 0)) (List.toArray []))
noncomputable def o3v4 (P : Params) : Obj := (Obj.mk (Value.type "dict") none (Data.dict (List.toArray [(DictEntry.mk (PyData.keyHash P (Str.ofString "__name__")) (Value.str (Str.ofString "__name__") 165) (Value.str (Str.ofString "cpy313.locale") 238)), (DictEntry.mk (PyData.keyHash P (Str.ofString "__doc__")) (Value.str (Str.ofString "__doc__") 166) Value.none), (DictEntry.mk (PyData.keyHash P (Str.ofString "__package__")) (Value.str (Str.ofString "__package__") 167) Value.none), (DictEntry.mk (PyData.keyHash P (Str.ofString "__loader__")) (Value.str (Str.ofString "__loader__") 168) (Value.builtin "__main__.__loader__#opaque")), (DictEntry.mk (PyData.keyHash P (Str.ofString "__spec__")) (Value.str (Str.ofString "__spec__") 169) Value.none), (DictEntry.mk (PyData.keyHash P (Str.ofString "__annotations__")) (Value.str (Str.ofString "__annotations__") 170) (Value.ref 6)), (DictEntry.mk (PyData.keyHash P (Str.ofString "__builtins__")) (Value.str (Str.ofString "__builtins__") 171) (Value.ref 4)), (DictEntry.mk (PyData.keyHash P (Str.ofString "__file__")) (Value.str (Str.ofString "__file__") 173) (Value.str (Str.ofString "/claim/cut.py") 172)), (DictEntry.mk (PyData.keyHash P (Str.ofString "__cached__")) (Value.str (Str.ofString "__cached__") 174) Value.none), (DictEntry.mk (PyData.keyHash P (Str.ofString "rgb_to_yiq")) (Value.str (Str.ofString "rgb_to_yiq") 200) (Value.ref 21)), (DictEntry.mk (PyData.keyHash P (Str.ofString "rgb_to_hls")) (Value.str (Str.ofString "rgb_to_hls") 219) (Value.ref 28)), (DictEntry.mk (PyData.keyHash P (Str.ofString "rgb_to_hsv")) (Value.str (Str.ofString "rgb_to_hsv") 237) (Value.ref 35))]) 12) (List.toArray []))
noncomputable def o3v5 (P : Params) : Obj := (Obj.mk (Value.type "dict") none (Data.dict (List.toArray [(DictEntry.mk (PyData.keyHash P (Str.ofString "__name__")) (Value.str (Str.ofString "__name__") 165) (Value.str (Str.ofString "cpy313.locale") 238)), (DictEntry.mk (PyData.keyHash P (Str.ofString "__doc__")) (Value.str (Str.ofString "__doc__") 166) Value.none), (DictEntry.mk (PyData.keyHash P (Str.ofString "__package__")) (Value.str (Str.ofString "__package__") 167) Value.none), (DictEntry.mk (PyData.keyHash P (Str.ofString "__loader__")) (Value.str (Str.ofString "__loader__") 168) (Value.builtin "__main__.__loader__#opaque")), (DictEntry.mk (PyData.keyHash P (Str.ofString "__spec__")) (Value.str (Str.ofString "__spec__") 169) Value.none), (DictEntry.mk (PyData.keyHash P (Str.ofString "__annotations__")) (Value.str (Str.ofString "__annotations__") 170) (Value.ref 6)), (DictEntry.mk (PyData.keyHash P (Str.ofString "__builtins__")) (Value.str (Str.ofString "__builtins__") 171) (Value.ref 4)), (DictEntry.mk (PyData.keyHash P (Str.ofString "__file__")) (Value.str (Str.ofString "__file__") 173) (Value.str (Str.ofString "/claim/cut.py") 172)), (DictEntry.mk (PyData.keyHash P (Str.ofString "__cached__")) (Value.str (Str.ofString "__cached__") 174) Value.none), (DictEntry.mk (PyData.keyHash P (Str.ofString "rgb_to_yiq")) (Value.str (Str.ofString "rgb_to_yiq") 200) (Value.ref 21)), (DictEntry.mk (PyData.keyHash P (Str.ofString "rgb_to_hls")) (Value.str (Str.ofString "rgb_to_hls") 219) (Value.ref 28)), (DictEntry.mk (PyData.keyHash P (Str.ofString "rgb_to_hsv")) (Value.str (Str.ofString "rgb_to_hsv") 237) (Value.ref 35)), (DictEntry.mk (PyData.keyHash P (Str.ofString "CHAR_MAX")) (Value.str (Str.ofString "CHAR_MAX") 241) (Value.int (127 : Int) 240))]) 13) (List.toArray []))
noncomputable def o3v6 (P : Params) : Obj := (Obj.mk (Value.type "dict") none (Data.dict (List.toArray [(DictEntry.mk (PyData.keyHash P (Str.ofString "__name__")) (Value.str (Str.ofString "__name__") 165) (Value.str (Str.ofString "cpy313.locale") 238)), (DictEntry.mk (PyData.keyHash P (Str.ofString "__doc__")) (Value.str (Str.ofString "__doc__") 166) Value.none), (DictEntry.mk (PyData.keyHash P (Str.ofString "__package__")) (Value.str (Str.ofString "__package__") 167) Value.none), (DictEntry.mk (PyData.keyHash P (Str.ofString "__loader__")) (Value.str (Str.ofString "__loader__") 168) (Value.builtin "__main__.__loader__#opaque")), (DictEntry.mk (PyData.keyHash P (Str.ofString "__spec__")) (Value.str (Str.ofString "__spec__") 169) Value.none), (DictEntry.mk (PyData.keyHash P (Str.ofString "__annotations__")) (Value.str (Str.ofString "__annotations__") 170) (Value.ref 6)), (DictEntry.mk (PyData.keyHash P (Str.ofString "__builtins__")) (Value.str (Str.ofString "__builtins__") 171) (Value.ref 4)), (DictEntry.mk (PyData.keyHash P (Str.ofString "__file__")) (Value.str (Str.ofString "__file__") 173) (Value.str (Str.ofString "/claim/cut.py") 172)), (DictEntry.mk (PyData.keyHash P (Str.ofString "__cached__")) (Value.str (Str.ofString "__cached__") 174) Value.none), (DictEntry.mk (PyData.keyHash P (Str.ofString "rgb_to_yiq")) (Value.str (Str.ofString "rgb_to_yiq") 200) (Value.ref 21)), (DictEntry.mk (PyData.keyHash P (Str.ofString "rgb_to_hls")) (Value.str (Str.ofString "rgb_to_hls") 219) (Value.ref 28)), (DictEntry.mk (PyData.keyHash P (Str.ofString "rgb_to_hsv")) (Value.str (Str.ofString "rgb_to_hsv") 237) (Value.ref 35)), (DictEntry.mk (PyData.keyHash P (Str.ofString "CHAR_MAX")) (Value.str (Str.ofString "CHAR_MAX") 241) (Value.int (127 : Int) 240)), (DictEntry.mk (PyData.keyHash P (Str.ofString "_grouping_intervals")) (Value.str (Str.ofString "_grouping_intervals") 250) (Value.ref 42))]) 14) (List.toArray []))
noncomputable def o12v6 (P : Params) : Obj := (Obj.mk Value.none none (Data.fields (List.toArray [(Value.int (2 : Int) 0), (Value.int (0 : Int) 0), (Value.ref 20), (Value.int (7 : Int) 0), (Value.int (0 : Int) 0), (Value.ref 27), (Value.int (30 : Int) 0), (Value.int (0 : Int) 0), (Value.ref 34), (Value.int (51 : Int) 0), (Value.int (0 : Int) 0), (Value.ref 41)])) (List.toArray []))
noncomputable def o36 (P : Params) : Obj := (Obj.mk (Value.type "tuple") none (Data.seq (List.toArray []) 0) (List.toArray []))
noncomputable def o37 (P : Params) : Obj := (Obj.mk Value.none none (Data.fields (List.toArray [])) (List.toArray []))
noncomputable def o38 (P : Params) : Obj := (Obj.mk (Value.type "tuple") none (Data.seq (List.toArray [(Value.str (Str.ofString "grouping") 245), (Value.str (Str.ofString "last_interval") 246), (Value.str (Str.ofString "interval") 247)]) 0) (List.toArray []))
noncomputable def o39 (P : Params) : Obj := (Obj.mk (Value.type "tuple") none (Data.seq (List.toArray []) 0) (List.toArray []))
noncomputable def o40 (P : Params) : Obj := (Obj.mk Value.none none (Data.func (FuncData.mk (Str.ofString "_grouping_intervals") (Str.ofString "_grouping_intervals") (fnArgs 6) (FuncBody.stmts (fnBody 6)) (fnScope 6) 0 [] Value.none Value.none Value.none Value.none none Value.none Value.none 0)) (List.toArray []))
noncomputable def o41 (P : Params) : Obj := (Obj.mk (Value.type "code") none (Data.fields (List.toArray [(Value.str (Str.ofString "_grouping_intervals") 242), (Value.str (Str.ofString "_grouping_intervals") 243), (Value.str (Str.ofString "/claim/cut.py") 244), (Value.int (51 : Int) 0), (Value.int (1 : Int) 0), (Value.int (0 : Int) 0), (Value.int (0 : Int) 0), (Value.int (35 : Int) 0), (Value.ref 36), (Value.bool Bool.true), (Value.int (181 : Int) 0), (Value.ref 37), Value.none, (Value.ref 38), (Value.ref 39), (Value.ref 40), (Value.int (248 : Int) 0), (Value.int (51 : Int) 0), (Value.str (Str.ofString "/claim/cut.py") 249)])) (List.toArray []))
noncomputable def o42 (P : Params) : Obj := (Obj.mk (Value.type "function") none (Data.func (FuncData.mk (Str.ofString "_grouping_intervals") (Str.ofString "_grouping_intervals") (fnArgs 6) (FuncBody.stmts (fnBody 6)) (fnScope 6) 3 [] Value.none Value.none Value.none (Value.str (Str.ofString "cpy313.locale") 238) none (Value.ref 41) Value.none 0)) (List.toArray []))
noncomputable def o3v7 (P : Params) : Obj := (Obj.mk (Value.type "dict") none (Data.dict (List.toArray [(DictEntry.mk (PyData.keyHash P (Str.ofString "__name__")) (Value.str (Str.ofString "__name__") 165) (Value.str (Str.ofString "cpy313.stringprep") 251)), (DictEntry.mk (PyData.keyHash P (Str.ofString "__doc__")) (Value.str (Str.ofString "__doc__") 166) Value.none), (DictEntry.mk (PyData.keyHash P (Str.ofString "__package__")) (Value.str (Str.ofString "__package__") 167) Value.none), (DictEntry.mk (PyData.keyHash P (Str.ofString "__loader__")) (Value.str (Str.ofString "__loader__") 168) (Value.builtin "__main__.__loader__#opaque")), (DictEntry.mk (PyData.keyHash P (Str.ofString "__spec__")) (Value.str (Str.ofString "__spec__") 169) Value.none), (DictEntry.mk (PyData.keyHash P (Str.ofString "__annotations__")) (Value.str (Str.ofString "__annotations__") 170) (Value.ref 6)), (DictEntry.mk (PyData.keyHash P (Str.ofString "__builtins__")) (Value.str (Str.ofString "__builtins__") 171) (Value.ref 4)), (DictEntry.mk (PyData.keyHash P (Str.ofString "__file__")) (Value.str (Str.ofString "__file__") 173) (Value.str (Str.ofString "/claim/cut.py") 172)), (DictEntry.mk (PyData.keyHash P (Str.ofString "__cached__")) (Value.str (Str.ofString "__cached__") 174) Value.none), (DictEntry.mk (PyData.keyHash P (Str.ofString "rgb_to_yiq")) (Value.str (Str.ofString "rgb_to_yiq") 200) (Value.ref 21)), (DictEntry.mk (PyData.keyHash P (Str.ofString "rgb_to_hls")) (Value.str (Str.ofString "rgb_to_hls") 219) (Value.ref 28)), (DictEntry.mk (PyData.keyHash P (Str.ofString "rgb_to_hsv")) (Value.str (Str.ofString "rgb_to_hsv") 237) (Value.ref 35)), (DictEntry.mk (PyData.keyHash P (Str.ofString "CHAR_MAX")) (Value.str (Str.ofString "CHAR_MAX") 241) (Value.int (127 : Int) 240)), (DictEntry.mk (PyData.keyHash P (Str.ofString "_grouping_intervals")) (Value.str (Str.ofString "_grouping_intervals") 250) (Value.ref 42))]) 14) (List.toArray []))
noncomputable def o3v8 (P : Params) : Obj := (Obj.mk (Value.type "dict") none (Data.dict (List.toArray [(DictEntry.mk (PyData.keyHash P (Str.ofString "__name__")) (Value.str (Str.ofString "__name__") 165) (Value.str (Str.ofString "cpy313.stringprep") 251)), (DictEntry.mk (PyData.keyHash P (Str.ofString "__doc__")) (Value.str (Str.ofString "__doc__") 166) Value.none), (DictEntry.mk (PyData.keyHash P (Str.ofString "__package__")) (Value.str (Str.ofString "__package__") 167) Value.none), (DictEntry.mk (PyData.keyHash P (Str.ofString "__loader__")) (Value.str (Str.ofString "__loader__") 168) (Value.builtin "__main__.__loader__#opaque")), (DictEntry.mk (PyData.keyHash P (Str.ofString "__spec__")) (Value.str (Str.ofString "__spec__") 169) Value.none), (DictEntry.mk (PyData.keyHash P (Str.ofString "__annotations__")) (Value.str (Str.ofString "__annotations__") 170) (Value.ref 6)), (DictEntry.mk (PyData.keyHash P (Str.ofString "__builtins__")) (Value.str (Str.ofString "__builtins__") 171) (Value.ref 4)), (DictEntry.mk (PyData.keyHash P (Str.ofString "__file__")) (Value.str (Str.ofString "__file__") 173) (Value.str (Str.ofString "/claim/cut.py") 172)), (DictEntry.mk (PyData.keyHash P (Str.ofString "__cached__")) (Value.str (Str.ofString "__cached__") 174) Value.none), (DictEntry.mk (PyData.keyHash P (Str.ofString "rgb_to_yiq")) (Value.str (Str.ofString "rgb_to_yiq") 200) (Value.ref 21)), (DictEntry.mk (PyData.keyHash P (Str.ofString "rgb_to_hls")) (Value.str (Str.ofString "rgb_to_hls") 219) (Value.ref 28)), (DictEntry.mk (PyData.keyHash P (Str.ofString "rgb_to_hsv")) (Value.str (Str.ofString "rgb_to_hsv") 237) (Value.ref 35)), (DictEntry.mk (PyData.keyHash P (Str.ofString "CHAR_MAX")) (Value.str (Str.ofString "CHAR_MAX") 241) (Value.int (127 : Int) 240)), (DictEntry.mk (PyData.keyHash P (Str.ofString "_grouping_intervals")) (Value.str (Str.ofString "_grouping_intervals") 250) (Value.ref 42)), (DictEntry.mk (PyData.keyHash P (Str.ofString "b1_set")) (Value.str (Str.ofString "b1_set") 312) (Value.ref 50))]) 15) (List.toArray []))
noncomputable def o43 (P : Params) : Obj := (Obj.mk (Value.type "list") none (Data.seq (List.toArray [(Value.int (173 : Int) 253), (Value.int (847 : Int) 254), (Value.int (6150 : Int) 255), (Value.int (6155 : Int) 256), (Value.int (6156 : Int) 257), (Value.int (6157 : Int) 258), (Value.int (8203 : Int) 259), (Value.int (8204 : Int) 260), (Value.int (8205 : Int) 261), (Value.int (8288 : Int) 262), (Value.int (65279 : Int) 263)]) 0) (List.toArray []))
noncomputable def o44 (P : Params) : Obj := (Obj.mk (Value.type "range") none (Data.fields (List.toArray [(Value.int (65024 : Int) 264), (Value.int (65040 : Int) 265), (Value.int (1 : Int) 266)])) (List.toArray []))
noncomputable def o45 (P : Params) : Obj := (Obj.mk (Value.type "list") none (Data.seq (List.toArray [(Value.int (65024 : Int) 269), (Value.int (65025 : Int) 270), (Value.int (65026 : Int) 271), (Value.int (65027 : Int) 272), (Value.int (65028 : Int) 273), (Value.int (65029 : Int) 274), (Value.int (65030 : Int) 275), (Value.int (65031 : Int) 276), (Value.int (65032 : Int) 277), (Value.int (65033 : Int) 278), (Value.int (65034 : Int) 279), (Value.int (65035 : Int) 280), (Value.int (65036 : Int) 281), (Value.int (65037 : Int) 282), (Value.int (65038 : Int) 283), (Value.int (65039 : Int) 284)]) 18) (List.toArray []))
noncomputable def o46 (P : Params) : Obj := (Obj.mk (Value.type "range_iterator") none (Data.fields (List.toArray [(Value.int (65040 : Int) 0), (Value.int (0 : Int) 0), (Value.int (1 : Int) 0)])) (List.toArray []))
noncomputable def o47 (P : Params) : Obj := (Obj.mk (Value.type "tuple") none (Data.seq (List.toArray []) 0) (List.toArray []))
noncomputable def o48 (P : Params) : Obj := (Obj.mk (Value.type "StopIteration") none (Data.fields (List.toArray [(Value.ref 47), Value.none, Value.none, Value.none, (Value.bool Bool.false), Value.none])) (List.toArray []))
noncomputable def o49 (P : Params) : Obj := (Obj.mk (Value.type "list") none (Data.seq (List.toArray [(Value.int (173 : Int) 253), (Value.int (847 : Int) 254), (Value.int (6150 : Int) 255), (Value.int (6155 : Int) 256), (Value.int (6156 : Int) 257), (Value.int (6157 : Int) 258), (Value.int (8203 : Int) 259), (Value.int (8204 : Int) 260), (Value.int (8205 : Int) 261), (Value.int (8288 : Int) 262), (Value.int (65279 : Int) 263), (Value.int (65024 : Int) 269), (Value.int (65025 : Int) 270), (Value.int (65026 : Int) 271), (Value.int (65027 : Int) 272), (Value.int (65028 : Int) 273), (Value.int (65029 : Int) 274), (Value.int (65030 : Int) 275), (Value.int (65031 : Int) 276), (Value.int (65032 : Int) 277), (Value.int (65033 : Int) 278), (Value.int (65034 : Int) 279), (Value.int (65035 : Int) 280), (Value.int (65036 : Int) 281), (Value.int (65037 : Int) 282), (Value.int (65038 : Int) 283), (Value.int (65039 : Int) 284)]) 0) (List.toArray []))
noncomputable def o50 (P : Params) : Obj := (Obj.mk (Value.type "set") none (Data.set (List.toArray [((65024 : Int), (Value.int (65024 : Int) 269)), ((65025 : Int), (Value.int (65025 : Int) 270)), ((65026 : Int), (Value.int (65026 : Int) 271)), ((65027 : Int), (Value.int (65027 : Int) 272)), ((65028 : Int), (Value.int (65028 : Int) 273)), ((65029 : Int), (Value.int (65029 : Int) 274)), ((6150 : Int), (Value.int (6150 : Int) 255)), ((65030 : Int), (Value.int (65030 : Int) 275)), ((65031 : Int), (Value.int (65031 : Int) 276)), ((65032 : Int), (Value.int (65032 : Int) 277)), ((65033 : Int), (Value.int (65033 : Int) 278)), ((6155 : Int), (Value.int (6155 : Int) 256)), ((6156 : Int), (Value.int (6156 : Int) 257)), ((6157 : Int), (Value.int (6157 : Int) 258)), ((8203 : Int), (Value.int (8203 : Int) 259)), ((8204 : Int), (Value.int (8204 : Int) 260)), ((8205 : Int), (Value.int (8205 : Int) 261)), ((65034 : Int), (Value.int (65034 : Int) 279)), ((65035 : Int), (Value.int (65035 : Int) 280)), ((65036 : Int), (Value.int (65036 : Int) 281)), ((65037 : Int), (Value.int (65037 : Int) 282)), ((65038 : Int), (Value.int (65038 : Int) 283)), ((65039 : Int), (Value.int (65039 : Int) 284)), ((173 : Int), (Value.int (173 : Int) 253)), ((847 : Int), (Value.int (847 : Int) 254)), ((8288 : Int), (Value.int (8288 : Int) 262)), ((65279 : Int), (Value.int (65279 : Int) 263))]) 29 (SetTable.mk 127 (List.toArray [0, 1, 2, 3, 4, 5, 6, 7, 8, 9, 10, 11, 12, 13, 14, 15, 16, 17, 18, 19, 20, 21, 22, 45, 79, 96, 127]) (List.toArray []) 0 (!P.followText "set-order") 2 Bool.true)) (List.toArray []))
noncomputable def o51 (P : Params) : Obj := (Obj.mk (Value.type "list_iterator") none (Data.fields (List.toArray [Value.none, (Value.int (27 : Int) 0)])) (List.toArray []))
noncomputable def o52 (P : Params) : Obj := (Obj.mk (Value.type "tuple") none (Data.seq (List.toArray []) 0) (List.toArray []))
noncomputable def o53 (P : Params) : Obj := (Obj.mk (Value.type "StopIteration") none (Data.fields (List.toArray [(Value.ref 52), Value.none, Value.none, Value.none, (Value.bool Bool.false), Value.none])) (List.toArray []))
noncomputable def o3v9 (P : Params) : Obj := (Obj.mk (Value.type "dict") none (Data.dict (List.toArray [(DictEntry.mk (PyData.keyHash P (Str.ofString "__name__")) (Value.str (Str.ofString "__name__") 165) (Value.str (Str.ofString "cpy313.stringprep") 251)), (DictEntry.mk (PyData.keyHash P (Str.ofString "__doc__")) (Value.str (Str.ofString "__doc__") 166) Value.none), (DictEntry.mk (PyData.keyHash P (Str.ofString "__package__")) (Value.str (Str.ofString "__package__") 167) Value.none), (DictEntry.mk (PyData.keyHash P (Str.ofString "__loader__")) (Value.str (Str.ofString "__loader__") 168) (Value.builtin "__main__.__loader__#opaque")), (DictEntry.mk (PyData.keyHash P (Str.ofString "__spec__")) (Value.str (Str.ofString "__spec__") 169) Value.none), (DictEntry.mk (PyData.keyHash P (Str.ofString "__annotations__")) (Value.str (Str.ofString "__annotations__") 170) (Value.ref 6)), (DictEntry.mk (PyData.keyHash P (Str.ofString "__builtins__")) (Value.str (Str.ofString "__builtins__") 171) (Value.ref 4)), (DictEntry.mk (PyData.keyHash P (Str.ofString "__file__")) (Value.str (Str.ofString "__file__") 173) (Value.str (Str.ofString "/claim/cut.py") 172)), (DictEntry.mk (PyData.keyHash P (Str.ofString "__cached__")) (Value.str (Str.ofString "__cached__") 174) Value.none), (DictEntry.mk (PyData.keyHash P (Str.ofString "rgb_to_yiq")) (Value.str (Str.ofString "rgb_to_yiq") 200) (Value.ref 21)), (DictEntry.mk (PyData.keyHash P (Str.ofString "rgb_to_hls")) (Value.str (Str.ofString "rgb_to_hls") 219) (Value.ref 28)), (DictEntry.mk (PyData.keyHash P (Str.ofString "rgb_to_hsv")) (Value.str (Str.ofString "rgb_to_hsv") 237) (Value.ref 35)), (DictEntry.mk (PyData.keyHash P (Str.ofString "CHAR_MAX")) (Value.str (Str.ofString "CHAR_MAX") 241) (Value.int (127 : Int) 240)), (DictEntry.mk (PyData.keyHash P (Str.ofString "_grouping_intervals")) (Value.str (Str.ofString "_grouping_intervals") 250) (Value.ref 42)), (DictEntry.mk (PyData.keyHash P (Str.ofString "b1_set")) (Value.str (Str.ofString "b1_set") 312) (Value.ref 50)), (DictEntry.mk (PyData.keyHash P (Str.ofString "in_table_b1")) (Value.str (Str.ofString "in_table_b1") 319) (Value.ref 60))]) 16) (List.toArray []))
noncomputable def o12v9 (P : Params) : Obj := (Obj.mk Value.none none (Data.fields (List.toArray [(Value.int (2 : Int) 0), (Value.int (0 : Int) 0), (Value.ref 20), (Value.int (7 : Int) 0), (Value.int (0 : Int) 0), (Value.ref 27), (Value.int (30 : Int) 0), (Value.int (0 : Int) 0), (Value.ref 34), (Value.int (51 : Int) 0), (Value.int (0 : Int) 0), (Value.ref 41), (Value.int (65 : Int) 0), (Value.int (0 : Int) 0), (Value.ref 59)])) (List.toArray []))
noncomputable def o54 (P : Params) : Obj := (Obj.mk (Value.type "tuple") none (Data.seq (List.toArray []) 0) (List.toArray []))
noncomputable def o55 (P : Params) : Obj := (Obj.mk Value.none none (Data.fields (List.toArray [])) (List.toArray []))
noncomputable def o56 (P : Params) : Obj := (Obj.mk (Value.type "tuple") none (Data.seq (List.toArray [(Value.str (Str.ofString "code") 316)]) 0) (List.toArray []))
noncomputable def o57 (P : Params) : Obj := (Obj.mk (Value.type "tuple") none (Data.seq (List.toArray []) 0) (List.toArray []))
noncomputable def o58 (P : Params) : Obj := (Obj.mk Value.none none (Data.func (FuncData.mk (Str.ofString "in_table_b1") (Str.ofString "in_table_b1") (fnArgs 9) (FuncBody.stmts (fnBody 9)) (fnScope 9) 0 [] Value.none Value.none Value.none Value.none none Value.none Value.none 0)) (List.toArray []))
noncomputable def o59 (P : Params) : Obj := (Obj.mk (Value.type "code") none (Data.fields (List.toArray [(Value.str (Str.ofString "in_table_b1") 313), (Value.str (Str.ofString "in_table_b1") 314), (Value.str (Str.ofString "/claim/cut.py") 315), (Value.int (65 : Int) 0), (Value.int (1 : Int) 0), (Value.int (0 : Int) 0), (Value.int (0 : Int) 0), (Value.int (3 : Int) 0), (Value.ref 54), (Value.bool Bool.true), (Value.int (181 : Int) 0), (Value.ref 55), Value.none, (Value.ref 56), (Value.ref 57), (Value.ref 58), (Value.int (317 : Int) 0), (Value.int (65 : Int) 0), (Value.str (Str.ofString "/claim/cut.py") 318)])) (List.toArray []))
noncomputable def o60 (P : Params) : Obj := (Obj.mk (Value.type "function") none (Data.func (FuncData.mk (Str.ofString "in_table_b1") (Str.ofString "in_table_b1") (fnArgs 9) (FuncBody.stmts (fnBody 9)) (fnScope 9) 3 [] Value.none Value.none Value.none (Value.str (Str.ofString "cpy313.stringprep") 251) none (Value.ref 59) Value.none 0)) (List.toArray []))
noncomputable def o3v10 (P : Params) : Obj := (Obj.mk (Value.type "dict") none (Data.dict (List.toArray [(DictEntry.mk (PyData.keyHash P (Str.ofString "__name__")) (Value.str (Str.ofString "__name__") 165) (Value.str (Str.ofString "cpy313.stringprep") 251)), (DictEntry.mk (PyData.keyHash P (Str.ofString "__doc__")) (Value.str (Str.ofString "__doc__") 166) Value.none), (DictEntry.mk (PyData.keyHash P (Str.ofString "__package__")) (Value.str (Str.ofString "__package__") 167) Value.none), (DictEntry.mk (PyData.keyHash P (Str.ofString "__loader__")) (Value.str (Str.ofString "__loader__") 168) (Value.builtin "__main__.__loader__#opaque")), (DictEntry.mk (PyData.keyHash P (Str.ofString "__spec__")) (Value.str (Str.ofString "__spec__") 169) Value.none), (DictEntry.mk (PyData.keyHash P (Str.ofString "__annotations__")) (Value.str (Str.ofString "__annotations__") 170) (Value.ref 6)), (DictEntry.mk (PyData.keyHash P (Str.ofString "__builtins__")) (Value.str (Str.ofString "__builtins__") 171) (Value.ref 4)), (DictEntry.mk (PyData.keyHash P (Str.ofString "__file__")) (Value.str (Str.ofString "__file__") 173) (Value.str (Str.ofString "/claim/cut.py") 172)), (DictEntry.mk (PyData.keyHash P (Str.ofString "__cached__")) (Value.str (Str.ofString "__cached__") 174) Value.none), (DictEntry.mk (PyData.keyHash P (Str.ofString "rgb_to_yiq")) (Value.str (Str.ofString "rgb_to_yiq") 200) (Value.ref 21)), (DictEntry.mk (PyData.keyHash P (Str.ofString "rgb_to_hls")) (Value.str (Str.ofString "rgb_to_hls") 219) (Value.ref 28)), (DictEntry.mk (PyData.keyHash P (Str.ofString "rgb_to_hsv")) (Value.str (Str.ofString "rgb_to_hsv") 237) (Value.ref 35)), (DictEntry.mk (PyData.keyHash P (Str.ofString "CHAR_MAX")) (Value.str (Str.ofString "CHAR_MAX") 241) (Value.int (127 : Int) 240)), (DictEntry.mk (PyData.keyHash P (Str.ofString "_grouping_intervals")) (Value.str (Str.ofString "_grouping_intervals") 250) (Value.ref 42)), (DictEntry.mk (PyData.keyHash P (Str.ofString "b1_set")) (Value.str (Str.ofString "b1_set") 312) (Value.ref 50)), (DictEntry.mk (PyData.keyHash P (Str.ofString "in_table_b1")) (Value.str (Str.ofString "in_table_b1") 319) (Value.ref 60)), (DictEntry.mk (PyData.keyHash P (Str.ofString "b3_exceptions")) (Value.str (Str.ofString "b3_exceptions") 2270) (Value.ref 61))]) 17) (List.toArray []))
noncomputable def o61 (P : Params) : Obj := dictOb entB3 650
noncomputable def o62 (P : Params) : Obj := dictOb (subB3 1) 17
noncomputable def o63 (P : Params) : Obj := dictOb (subB3 2) 17
noncomputable def o64 (P : Params) : Obj := dictOb (subB3 3) 17
noncomputable def o65 (P : Params) : Obj := dictOb (subB3 4) 17
noncomputable def o66 (P : Params) : Obj := dictOb (subB3 5) 17
noncomputable def o67 (P : Params) : Obj := dictOb (subB3 6) 17
noncomputable def o68 (P : Params) : Obj := dictOb (subB3 7) 17
noncomputable def o69 (P : Params) : Obj := dictOb (subB3 8) 17
noncomputable def o70 (P : Params) : Obj := dictOb (subB3 9) 17
noncomputable def o71 (P : Params) : Obj := dictOb (subB3 10) 17
noncomputable def o72 (P : Params) : Obj := dictOb (subB3 11) 17
noncomputable def o73 (P : Params) : Obj := dictOb (subB3 12) 17
noncomputable def o74 (P : Params) : Obj := dictOb (subB3 13) 17
noncomputable def o75 (P : Params) : Obj := dictOb (subB3 14) 17
noncomputable def o76 (P : Params) : Obj := dictOb (subB3 15) 17
noncomputable def o77 (P : Params) : Obj := dictOb (subB3 16) 17
noncomputable def o78 (P : Params) : Obj := dictOb (subB3 17) 17
noncomputable def o79 (P : Params) : Obj := dictOb (subB3 18) 17
noncomputable def o80 (P : Params) : Obj := dictOb (subB3 19) 17
noncomputable def o81 (P : Params) : Obj := dictOb (subB3 20) 17
noncomputable def o82 (P : Params) : Obj := dictOb (subB3 21) 17
noncomputable def o83 (P : Params) : Obj := dictOb (subB3 22) 17
noncomputable def o84 (P : Params) : Obj := dictOb (subB3 23) 17
noncomputable def o85 (P : Params) : Obj := dictOb (subB3 24) 17
noncomputable def o86 (P : Params) : Obj := dictOb (subB3 25) 17
noncomputable def o87 (P : Params) : Obj := dictOb (subB3 26) 17
noncomputable def o88 (P : Params) : Obj := dictOb (subB3 27) 17
noncomputable def o89 (P : Params) : Obj := dictOb (subB3 28) 17
noncomputable def o90 (P : Params) : Obj := dictOb (subB3 29) 17
noncomputable def o91 (P : Params) : Obj := dictOb (subB3 30) 17
noncomputable def o92 (P : Params) : Obj := dictOb (subB3 31) 17
noncomputable def o93 (P : Params) : Obj := dictOb (subB3 32) 17
noncomputable def o94 (P : Params) : Obj := dictOb (subB3 33) 17
noncomputable def o95 (P : Params) : Obj := dictOb (subB3 34) 17
noncomputable def o96 (P : Params) : Obj := dictOb (subB3 35) 17
noncomputable def o97 (P : Params) : Obj := dictOb (subB3 36) 17
noncomputable def o98 (P : Params) : Obj := dictOb (subB3 37) 17
noncomputable def o99 (P : Params) : Obj := dictOb (subB3 38) 4
noncomputable def o3v11 (P : Params) : Obj := (Obj.mk (Value.type "dict") none (Data.dict (List.toArray [(DictEntry.mk (PyData.keyHash P (Str.ofString "__name__")) (Value.str (Str.ofString "__name__") 165) (Value.str (Str.ofString "cpy313.stringprep") 251)), (DictEntry.mk (PyData.keyHash P (Str.ofString "__doc__")) (Value.str (Str.ofString "__doc__") 166) Value.none), (DictEntry.mk (PyData.keyHash P (Str.ofString "__package__")) (Value.str (Str.ofString "__package__") 167) Value.none), (DictEntry.mk (PyData.keyHash P (Str.ofString "__loader__")) (Value.str (Str.ofString "__loader__") 168) (Value.builtin "__main__.__loader__#opaque")), (DictEntry.mk (PyData.keyHash P (Str.ofString "__spec__")) (Value.str (Str.ofString "__spec__") 169) Value.none), (DictEntry.mk (PyData.keyHash P (Str.ofString "__annotations__")) (Value.str (Str.ofString "__annotations__") 170) (Value.ref 6)), (DictEntry.mk (PyData.keyHash P (Str.ofString "__builtins__")) (Value.str (Str.ofString "__builtins__") 171) (Value.ref 4)), (DictEntry.mk (PyData.keyHash P (Str.ofString "__file__")) (Value.str (Str.ofString "__file__") 173) (Value.str (Str.ofString "/claim/cut.py") 172)), (DictEntry.mk (PyData.keyHash P (Str.ofString "__cached__")) (Value.str (Str.ofString "__cached__") 174) Value.none), (DictEntry.mk (PyData.keyHash P (Str.ofString "rgb_to_yiq")) (Value.str (Str.ofString "rgb_to_yiq") 200) (Value.ref 21)), (DictEntry.mk (PyData.keyHash P (Str.ofString "rgb_to_hls")) (Value.str (Str.ofString "rgb_to_hls") 219) (Value.ref 28)), (DictEntry.mk (PyData.keyHash P (Str.ofString "rgb_to_hsv")) (Value.str (Str.ofString "rgb_to_hsv") 237) (Value.ref 35)), (DictEntry.mk (PyData.keyHash P (Str.ofString "CHAR_MAX")) (Value.str (Str.ofString "CHAR_MAX") 241) (Value.int (127 : Int) 240)), (DictEntry.mk (PyData.keyHash P (Str.ofString "_grouping_intervals")) (Value.str (Str.ofString "_grouping_intervals") 250) (Value.ref 42)), (DictEntry.mk (PyData.keyHash P (Str.ofString "b1_set")) (Value.str (Str.ofString "b1_set") 312) (Value.ref 50)), (DictEntry.mk (PyData.keyHash P (Str.ofString "in_table_b1")) (Value.str (Str.ofString "in_table_b1") 319) (Value.ref 60)), (DictEntry.mk (PyData.keyHash P (Str.ofString "b3_exceptions")) (Value.str (Str.ofString "b3_exceptions") 2270) (Value.ref 61)), (DictEntry.mk (PyData.keyHash P (Str.ofString "map_table_b3")) (Value.str (Str.ofString "map_table_b3") 2278) (Value.ref 106))]) 18) (List.toArray []))
noncomputable def o12v11 (P : Params) : Obj := (Obj.mk Value.none none (Data.fields (List.toArray [(Value.int (2 : Int) 0), (Value.int (0 : Int) 0), (Value.ref 20), (Value.int (7 : Int) 0), (Value.int (0 : Int) 0), (Value.ref 27), (Value.int (30 : Int) 0), (Value.int (0 : Int) 0), (Value.ref 34), (Value.int (51 : Int) 0), (Value.int (0 : Int) 0), (Value.ref 41), (Value.int (65 : Int) 0), (Value.int (0 : Int) 0), (Value.ref 59), (Value.int (68 : Int) 0), (Value.int (0 : Int) 0), (Value.ref 105)])) (List.toArray []))
noncomputable def o100 (P : Params) : Obj := (Obj.mk (Value.type "tuple") none (Data.seq (List.toArray []) 0) (List.toArray []))
noncomputable def o101 (P : Params) : Obj := (Obj.mk Value.none none (Data.fields (List.toArray [])) (List.toArray []))
noncomputable def o102 (P : Params) : Obj := (Obj.mk (Value.type "tuple") none (Data.seq (List.toArray [(Value.str (Str.ofString "code") 2274), (Value.str (Str.ofString "r") 2275)]) 0) (List.toArray []))
noncomputable def o103 (P : Params) : Obj := (Obj.mk (Value.type "tuple") none (Data.seq (List.toArray []) 0) (List.toArray []))
noncomputable def o104 (P : Params) : Obj := (Obj.mk Value.none none (Data.func (FuncData.mk (Str.ofString "map_table_b3") (Str.ofString "map_table_b3") (fnArgs 11) (FuncBody.stmts (fnBody 11)) (fnScope 11) 0 [] Value.none Value.none Value.none Value.none none Value.none Value.none 0)) (List.toArray []))
noncomputable def o105 (P : Params) : Obj := (Obj.mk (Value.type "code") none (Data.fields (List.toArray [(Value.str (Str.ofString "map_table_b3") 2271), (Value.str (Str.ofString "map_table_b3") 2272), (Value.str (Str.ofString "/claim/cut.py") 2273), (Value.int (68 : Int) 0), (Value.int (1 : Int) 0), (Value.int (0 : Int) 0), (Value.int (0 : Int) 0), (Value.int (3 : Int) 0), (Value.ref 100), (Value.bool Bool.true), (Value.int (181 : Int) 0), (Value.ref 101), Value.none, (Value.ref 102), (Value.ref 103), (Value.ref 104), (Value.int (2276 : Int) 0), (Value.int (68 : Int) 0), (Value.str (Str.ofString "/claim/cut.py") 2277)])) (List.toArray []))
noncomputable def o106 (P : Params) : Obj := (Obj.mk (Value.type "function") none (Data.func (FuncData.mk (Str.ofString "map_table_b3") (Str.ofString "map_table_b3") (fnArgs 11) (FuncBody.stmts (fnBody 11)) (fnScope 11) 3 [] Value.none Value.none Value.none (Value.str (Str.ofString "cpy313.stringprep") 251) none (Value.ref 105) Value.none 0)) (List.toArray []))
noncomputable def o3v12 (P : Params) : Obj := (Obj.mk (Value.type "dict") none (Data.dict (List.toArray [(DictEntry.mk (PyData.keyHash P (Str.ofString "__name__")) (Value.str (Str.ofString "__name__") 165) (Value.str (Str.ofString "law_tp0035_01") 2279)), (DictEntry.mk (PyData.keyHash P (Str.ofString "__doc__")) (Value.str (Str.ofString "__doc__") 166) Value.none), (DictEntry.mk (PyData.keyHash P (Str.ofString "__package__")) (Value.str (Str.ofString "__package__") 167) Value.none), (DictEntry.mk (PyData.keyHash P (Str.ofString "__loader__")) (Value.str (Str.ofString "__loader__") 168) (Value.builtin "__main__.__loader__#opaque")), (DictEntry.mk (PyData.keyHash P (Str.ofString "__spec__")) (Value.str (Str.ofString "__spec__") 169) Value.none), (DictEntry.mk (PyData.keyHash P (Str.ofString "__annotations__")) (Value.str (Str.ofString "__annotations__") 170) (Value.ref 6)), (DictEntry.mk (PyData.keyHash P (Str.ofString "__builtins__")) (Value.str (Str.ofString "__builtins__") 171) (Value.ref 4)), (DictEntry.mk (PyData.keyHash P (Str.ofString "__file__")) (Value.str (Str.ofString "__file__") 173) (Value.str (Str.ofString "/claim/cut.py") 172)), (DictEntry.mk (PyData.keyHash P (Str.ofString "__cached__")) (Value.str (Str.ofString "__cached__") 174) Value.none), (DictEntry.mk (PyData.keyHash P (Str.ofString "rgb_to_yiq")) (Value.str (Str.ofString "rgb_to_yiq") 200) (Value.ref 21)), (DictEntry.mk (PyData.keyHash P (Str.ofString "rgb_to_hls")) (Value.str (Str.ofString "rgb_to_hls") 219) (Value.ref 28)), (DictEntry.mk (PyData.keyHash P (Str.ofString "rgb_to_hsv")) (Value.str (Str.ofString "rgb_to_hsv") 237) (Value.ref 35)), (DictEntry.mk (PyData.keyHash P (Str.ofString "CHAR_MAX")) (Value.str (Str.ofString "CHAR_MAX") 241) (Value.int (127 : Int) 240)), (DictEntry.mk (PyData.keyHash P (Str.ofString "_grouping_intervals")) (Value.str (Str.ofString "_grouping_intervals") 250) (Value.ref 42)), (DictEntry.mk (PyData.keyHash P (Str.ofString "b1_set")) (Value.str (Str.ofString "b1_set") 312) (Value.ref 50)), (DictEntry.mk (PyData.keyHash P (Str.ofString "in_table_b1")) (Value.str (Str.ofString "in_table_b1") 319) (Value.ref 60)), (DictEntry.mk (PyData.keyHash P (Str.ofString "b3_exceptions")) (Value.str (Str.ofString "b3_exceptions") 2270) (Value.ref 61)), (DictEntry.mk (PyData.keyHash P (Str.ofString "map_table_b3")) (Value.str (Str.ofString "map_table_b3") 2278) (Value.ref 106))]) 18) (List.toArray []))
noncomputable def o3v13 (P : Params) : Obj := (Obj.mk (Value.type "dict") none (Data.dict (List.toArray [(DictEntry.mk (PyData.keyHash P (Str.ofString "__name__")) (Value.str (Str.ofString "__name__") 165) (Value.str (Str.ofString "law_tp0035_01") 2279)), (DictEntry.mk (PyData.keyHash P (Str.ofString "__doc__")) (Value.str (Str.ofString "__doc__") 166) Value.none), (DictEntry.mk (PyData.keyHash P (Str.ofString "__package__")) (Value.str (Str.ofString "__package__") 167) Value.none), (DictEntry.mk (PyData.keyHash P (Str.ofString "__loader__")) (Value.str (Str.ofString "__loader__") 168) (Value.builtin "__main__.__loader__#opaque")), (DictEntry.mk (PyData.keyHash P (Str.ofString "__spec__")) (Value.str (Str.ofString "__spec__") 169) Value.none), (DictEntry.mk (PyData.keyHash P (Str.ofString "__annotations__")) (Value.str (Str.ofString "__annotations__") 170) (Value.ref 6)), (DictEntry.mk (PyData.keyHash P (Str.ofString "__builtins__")) (Value.str (Str.ofString "__builtins__") 171) (Value.ref 4)), (DictEntry.mk (PyData.keyHash P (Str.ofString "__file__")) (Value.str (Str.ofString "__file__") 173) (Value.str (Str.ofString "/claim/cut.py") 172)), (DictEntry.mk (PyData.keyHash P (Str.ofString "__cached__")) (Value.str (Str.ofString "__cached__") 174) Value.none), (DictEntry.mk (PyData.keyHash P (Str.ofString "rgb_to_yiq")) (Value.str (Str.ofString "rgb_to_yiq") 200) (Value.ref 21)), (DictEntry.mk (PyData.keyHash P (Str.ofString "rgb_to_hls")) (Value.str (Str.ofString "rgb_to_hls") 219) (Value.ref 28)), (DictEntry.mk (PyData.keyHash P (Str.ofString "rgb_to_hsv")) (Value.str (Str.ofString "rgb_to_hsv") 237) (Value.ref 35)), (DictEntry.mk (PyData.keyHash P (Str.ofString "CHAR_MAX")) (Value.str (Str.ofString "CHAR_MAX") 241) (Value.int (127 : Int) 240)), (DictEntry.mk (PyData.keyHash P (Str.ofString "_grouping_intervals")) (Value.str (Str.ofString "_grouping_intervals") 250) (Value.ref 42)), (DictEntry.mk (PyData.keyHash P (Str.ofString "b1_set")) (Value.str (Str.ofString "b1_set") 312) (Value.ref 50)), (DictEntry.mk (PyData.keyHash P (Str.ofString "in_table_b1")) (Value.str (Str.ofString "in_table_b1") 319) (Value.ref 60)), (DictEntry.mk (PyData.keyHash P (Str.ofString "b3_exceptions")) (Value.str (Str.ofString "b3_exceptions") 2270) (Value.ref 61)), (DictEntry.mk (PyData.keyHash P (Str.ofString "map_table_b3")) (Value.str (Str.ofString "map_table_b3") 2278) (Value.ref 106)), (DictEntry.mk (PyData.keyHash P (Str.ofString "_law_draws")) (Value.str (Str.ofString "_law_draws") 2286) (Value.ref 111))]) 19) (List.toArray []))
noncomputable def o12v13 (P : Params) : Obj := (Obj.mk Value.none none (Data.fields (List.toArray [(Value.int (2 : Int) 0), (Value.int (0 : Int) 0), (Value.ref 20), (Value.int (7 : Int) 0), (Value.int (0 : Int) 0), (Value.ref 27), (Value.int (30 : Int) 0), (Value.int (0 : Int) 0), (Value.ref 34), (Value.int (51 : Int) 0), (Value.int (0 : Int) 0), (Value.ref 41), (Value.int (65 : Int) 0), (Value.int (0 : Int) 0), (Value.ref 59), (Value.int (68 : Int) 0), (Value.int (0 : Int) 0), (Value.ref 105), (Value.int (74 : Int) 0), (Value.int (0 : Int) 0), (Value.ref 110)])) (List.toArray []))
noncomputable def o107 (P : Params) : Obj := (Obj.mk (Value.type "tuple") none (Data.seq (List.toArray []) 0) (List.toArray []))
noncomputable def o108 (P : Params) : Obj := (Obj.mk Value.none none (Data.fields (List.toArray [])) (List.toArray []))
noncomputable def o109 (P : Params) : Obj := (Obj.mk Value.none none (Data.func (FuncData.mk (Str.ofString "_law_draws") (Str.ofString "_law_draws") (fnArgs 13) (FuncBody.stmts (fnBody 13)) (fnScope 13) 0 [] Value.none Value.none Value.none Value.none none Value.none Value.none 0)) (List.toArray []))
noncomputable def o110 (P : Params) : Obj := (Obj.mk (Value.type "code") none (Data.fields (List.toArray [(Value.str (Str.ofString "_law_draws") 2281), (Value.str (Str.ofString "_law_draws") 2282), (Value.str (Str.ofString "/claim/cut.py") 2283), (Value.int (74 : Int) 0), (Value.int (2 : Int) 0), (Value.int (0 : Int) 0), (Value.int (0 : Int) 0), (Value.int (3 : Int) 0), (Value.ref 107), (Value.bool Bool.true), (Value.int (181 : Int) 0), (Value.ref 108), Value.none, Value.none, Value.none, (Value.ref 109), (Value.int (2284 : Int) 0), (Value.int (74 : Int) 0), (Value.str (Str.ofString "/claim/cut.py") 2285)])) (List.toArray []))
noncomputable def o111 (P : Params) : Obj := (Obj.mk (Value.type "function") none (Data.func (FuncData.mk (Str.ofString "_law_draws") (Str.ofString "_law_draws") (fnArgs 13) (FuncBody.stmts (fnBody 13)) (fnScope 13) 3 [] Value.none Value.none Value.none (Value.str (Str.ofString "law_tp0035_01") 2279) none (Value.ref 110) Value.none 0)) (List.toArray []))
noncomputable def o3v14 (P : Params) : Obj := (Obj.mk (Value.type "dict") none (Data.dict (List.toArray [(DictEntry.mk (PyData.keyHash P (Str.ofString "__name__")) (Value.str (Str.ofString "__name__") 165) (Value.str (Str.ofString "law_tp0035_01") 2279)), (DictEntry.mk (PyData.keyHash P (Str.ofString "__doc__")) (Value.str (Str.ofString "__doc__") 166) Value.none), (DictEntry.mk (PyData.keyHash P (Str.ofString "__package__")) (Value.str (Str.ofString "__package__") 167) Value.none), (DictEntry.mk (PyData.keyHash P (Str.ofString "__loader__")) (Value.str (Str.ofString "__loader__") 168) (Value.builtin "__main__.__loader__#opaque")), (DictEntry.mk (PyData.keyHash P (Str.ofString "__spec__")) (Value.str (Str.ofString "__spec__") 169) Value.none), (DictEntry.mk (PyData.keyHash P (Str.ofString "__annotations__")) (Value.str (Str.ofString "__annotations__") 170) (Value.ref 6)), (DictEntry.mk (PyData.keyHash P (Str.ofString "__builtins__")) (Value.str (Str.ofString "__builtins__") 171) (Value.ref 4)), (DictEntry.mk (PyData.keyHash P (Str.ofString "__file__")) (Value.str (Str.ofString "__file__") 173) (Value.str (Str.ofString "/claim/cut.py") 172)), (DictEntry.mk (PyData.keyHash P (Str.ofString "__cached__")) (Value.str (Str.ofString "__cached__") 174) Value.none), (DictEntry.mk (PyData.keyHash P (Str.ofString "rgb_to_yiq")) (Value.str (Str.ofString "rgb_to_yiq") 200) (Value.ref 21)), (DictEntry.mk (PyData.keyHash P (Str.ofString "rgb_to_hls")) (Value.str (Str.ofString "rgb_to_hls") 219) (Value.ref 28)), (DictEntry.mk (PyData.keyHash P (Str.ofString "rgb_to_hsv")) (Value.str (Str.ofString "rgb_to_hsv") 237) (Value.ref 35)), (DictEntry.mk (PyData.keyHash P (Str.ofString "CHAR_MAX")) (Value.str (Str.ofString "CHAR_MAX") 241) (Value.int (127 : Int) 240)), (DictEntry.mk (PyData.keyHash P (Str.ofString "_grouping_intervals")) (Value.str (Str.ofString "_grouping_intervals") 250) (Value.ref 42)), (DictEntry.mk (PyData.keyHash P (Str.ofString "b1_set")) (Value.str (Str.ofString "b1_set") 312) (Value.ref 50)), (DictEntry.mk (PyData.keyHash P (Str.ofString "in_table_b1")) (Value.str (Str.ofString "in_table_b1") 319) (Value.ref 60)), (DictEntry.mk (PyData.keyHash P (Str.ofString "b3_exceptions")) (Value.str (Str.ofString "b3_exceptions") 2270) (Value.ref 61)), (DictEntry.mk (PyData.keyHash P (Str.ofString "map_table_b3")) (Value.str (Str.ofString "map_table_b3") 2278) (Value.ref 106)), (DictEntry.mk (PyData.keyHash P (Str.ofString "_law_draws")) (Value.str (Str.ofString "_law_draws") 2286) (Value.ref 111)), (DictEntry.mk (PyData.keyHash P (Str.ofString "_law_sizes")) (Value.str (Str.ofString "_law_sizes") 2292) (Value.ref 116))]) 20) (List.toArray []))
noncomputable def o12v14 (P : Params) : Obj := (Obj.mk Value.none none (Data.fields (List.toArray [(Value.int (2 : Int) 0), (Value.int (0 : Int) 0), (Value.ref 20), (Value.int (7 : Int) 0), (Value.int (0 : Int) 0), (Value.ref 27), (Value.int (30 : Int) 0), (Value.int (0 : Int) 0), (Value.ref 34), (Value.int (51 : Int) 0), (Value.int (0 : Int) 0), (Value.ref 41), (Value.int (65 : Int) 0), (Value.int (0 : Int) 0), (Value.ref 59), (Value.int (68 : Int) 0), (Value.int (0 : Int) 0), (Value.ref 105), (Value.int (74 : Int) 0), (Value.int (0 : Int) 0), (Value.ref 110), (Value.int (76 : Int) 0), (Value.int (0 : Int) 0), (Value.ref 115)])) (List.toArray []))
noncomputable def o112 (P : Params) : Obj := (Obj.mk (Value.type "tuple") none (Data.seq (List.toArray []) 0) (List.toArray []))
noncomputable def o113 (P : Params) : Obj := (Obj.mk Value.none none (Data.fields (List.toArray [])) (List.toArray []))
noncomputable def o114 (P : Params) : Obj := (Obj.mk Value.none none (Data.func (FuncData.mk (Str.ofString "_law_sizes") (Str.ofString "_law_sizes") (fnArgs 14) (FuncBody.stmts (fnBody 14)) (fnScope 14) 0 [] Value.none Value.none Value.none Value.none none Value.none Value.none 0)) (List.toArray []))
noncomputable def o115 (P : Params) : Obj := (Obj.mk (Value.type "code") none (Data.fields (List.toArray [(Value.str (Str.ofString "_law_sizes") 2287), (Value.str (Str.ofString "_law_sizes") 2288), (Value.str (Str.ofString "/claim/cut.py") 2289), (Value.int (76 : Int) 0), (Value.int (1 : Int) 0), (Value.int (0 : Int) 0), (Value.int (0 : Int) 0), (Value.int (3 : Int) 0), (Value.ref 112), (Value.bool Bool.true), (Value.int (181 : Int) 0), (Value.ref 113), Value.none, Value.none, Value.none, (Value.ref 114), (Value.int (2290 : Int) 0), (Value.int (76 : Int) 0), (Value.str (Str.ofString "/claim/cut.py") 2291)])) (List.toArray []))
noncomputable def o116 (P : Params) : Obj := (Obj.mk (Value.type "function") none (Data.func (FuncData.mk (Str.ofString "_law_sizes") (Str.ofString "_law_sizes") (fnArgs 14) (FuncBody.stmts (fnBody 14)) (fnScope 14) 3 [] Value.none Value.none Value.none (Value.str (Str.ofString "law_tp0035_01") 2279) none (Value.ref 115) Value.none 0)) (List.toArray []))
noncomputable def o3v15 (P : Params) : Obj := (Obj.mk (Value.type "dict") none (Data.dict (List.toArray [(DictEntry.mk (PyData.keyHash P (Str.ofString "__name__")) (Value.str (Str.ofString "__name__") 165) (Value.str (Str.ofString "law_tp0035_01") 2279)), (DictEntry.mk (PyData.keyHash P (Str.ofString "__doc__")) (Value.str (Str.ofString "__doc__") 166) Value.none), (DictEntry.mk (PyData.keyHash P (Str.ofString "__package__")) (Value.str (Str.ofString "__package__") 167) Value.none), (DictEntry.mk (PyData.keyHash P (Str.ofString "__loader__")) (Value.str (Str.ofString "__loader__") 168) (Value.builtin "__main__.__loader__#opaque")), (DictEntry.mk (PyData.keyHash P (Str.ofString "__spec__")) (Value.str (Str.ofString "__spec__") 169) Value.none), (DictEntry.mk (PyData.keyHash P (Str.ofString "__annotations__")) (Value.str (Str.ofString "__annotations__") 170) (Value.ref 6)), (DictEntry.mk (PyData.keyHash P (Str.ofString "__builtins__")) (Value.str (Str.ofString "__builtins__") 171) (Value.ref 4)), (DictEntry.mk (PyData.keyHash P (Str.ofString "__file__")) (Value.str (Str.ofString "__file__") 173) (Value.str (Str.ofString "/claim/cut.py") 172)), (DictEntry.mk (PyData.keyHash P (Str.ofString "__cached__")) (Value.str (Str.ofString "__cached__") 174) Value.none), (DictEntry.mk (PyData.keyHash P (Str.ofString "rgb_to_yiq")) (Value.str (Str.ofString "rgb_to_yiq") 200) (Value.ref 21)), (DictEntry.mk (PyData.keyHash P (Str.ofString "rgb_to_hls")) (Value.str (Str.ofString "rgb_to_hls") 219) (Value.ref 28)), (DictEntry.mk (PyData.keyHash P (Str.ofString "rgb_to_hsv")) (Value.str (Str.ofString "rgb_to_hsv") 237) (Value.ref 35)), (DictEntry.mk (PyData.keyHash P (Str.ofString "CHAR_MAX")) (Value.str (Str.ofString "CHAR_MAX") 241) (Value.int (127 : Int) 240)), (DictEntry.mk (PyData.keyHash P (Str.ofString "_grouping_intervals")) (Value.str (Str.ofString "_grouping_intervals") 250) (Value.ref 42)), (DictEntry.mk (PyData.keyHash P (Str.ofString "b1_set")) (Value.str (Str.ofString "b1_set") 312) (Value.ref 50)), (DictEntry.mk (PyData.keyHash P (Str.ofString "in_table_b1")) (Value.str (Str.ofString "in_table_b1") 319) (Value.ref 60)), (DictEntry.mk (PyData.keyHash P (Str.ofString "b3_exceptions")) (Value.str (Str.ofString "b3_exceptions") 2270) (Value.ref 61)), (DictEntry.mk (PyData.keyHash P (Str.ofString "map_table_b3")) (Value.str (Str.ofString "map_table_b3") 2278) (Value.ref 106)), (DictEntry.mk (PyData.keyHash P (Str.ofString "_law_draws")) (Value.str (Str.ofString "_law_draws") 2286) (Value.ref 111)), (DictEntry.mk (PyData.keyHash P (Str.ofString "_law_sizes")) (Value.str (Str.ofString "_law_sizes") 2292) (Value.ref 116)), (DictEntry.mk (PyData.keyHash P (Str.ofString "_law_marks")) (Value.str (Str.ofString "_law_marks") 2307) (Value.ref 123))]) 21) (List.toArray []))
noncomputable def o12v15 (P : Params) : Obj := (Obj.mk Value.none none (Data.fields (List.toArray [(Value.int (2 : Int) 0), (Value.int (0 : Int) 0), (Value.ref 20), (Value.int (7 : Int) 0), (Value.int (0 : Int) 0), (Value.ref 27), (Value.int (30 : Int) 0), (Value.int (0 : Int) 0), (Value.ref 34), (Value.int (51 : Int) 0), (Value.int (0 : Int) 0), (Value.ref 41), (Value.int (65 : Int) 0), (Value.int (0 : Int) 0), (Value.ref 59), (Value.int (68 : Int) 0), (Value.int (0 : Int) 0), (Value.ref 105), (Value.int (74 : Int) 0), (Value.int (0 : Int) 0), (Value.ref 110), (Value.int (76 : Int) 0), (Value.int (0 : Int) 0), (Value.ref 115), (Value.int (78 : Int) 0), (Value.int (0 : Int) 0), (Value.ref 122)])) (List.toArray []))
noncomputable def o117 (P : Params) : Obj := (Obj.mk (Value.type "tuple") none (Data.seq (List.toArray []) 0) (List.toArray []))
noncomputable def o118 (P : Params) : Obj := (Obj.mk Value.none none (Data.fields (List.toArray [])) (List.toArray []))
noncomputable def o119 (P : Params) : Obj := (Obj.mk (Value.type "tuple") none (Data.seq (List.toArray [(Value.str (Str.ofString "number") 2296), (Value.str (Str.ofString "first") 2297), (Value.str (Str.ofString "second") 2298), (Value.str (Str.ofString "third") 2299), (Value.str (Str.ofString "fourth") 2300), (Value.str (Str.ofString "rows") 2301), (Value.str (Str.ofString "marks") 2302), (Value.str (Str.ofString "mark") 2303), (Value.str (Str.ofString "size") 2304)]) 0) (List.toArray []))
noncomputable def o120 (P : Params) : Obj := (Obj.mk (Value.type "tuple") none (Data.seq (List.toArray []) 0) (List.toArray []))
noncomputable def o121 (P : Params) : Obj := (Obj.mk Value.none none (Data.func (FuncData.mk (Str.ofString "_law_marks") (Str.ofString "_law_marks") (fnArgs 15) (FuncBody.stmts (fnBody 15)) (fnScope 15) 0 [] Value.none Value.none Value.none Value.none none Value.none Value.none 0)) (List.toArray []))
noncomputable def o122 (P : Params) : Obj := (Obj.mk (Value.type "code") none (Data.fields (List.toArray [(Value.str (Str.ofString "_law_marks") 2293), (Value.str (Str.ofString "_law_marks") 2294), (Value.str (Str.ofString "/claim/cut.py") 2295), (Value.int (78 : Int) 0), (Value.int (1 : Int) 0), (Value.int (0 : Int) 0), (Value.int (0 : Int) 0), (Value.int (3 : Int) 0), (Value.ref 117), (Value.bool Bool.true), (Value.int (181 : Int) 0), (Value.ref 118), Value.none, (Value.ref 119), (Value.ref 120), (Value.ref 121), (Value.int (2305 : Int) 0), (Value.int (78 : Int) 0), (Value.str (Str.ofString "/claim/cut.py") 2306)])) (List.toArray []))
noncomputable def o123 (P : Params) : Obj := (Obj.mk (Value.type "function") none (Data.func (FuncData.mk (Str.ofString "_law_marks") (Str.ofString "_law_marks") (fnArgs 15) (FuncBody.stmts (fnBody 15)) (fnScope 15) 3 [] Value.none Value.none Value.none (Value.str (Str.ofString "law_tp0035_01") 2279) none (Value.ref 122) Value.none 0)) (List.toArray []))
noncomputable def o3v16 (P : Params) : Obj := (Obj.mk (Value.type "dict") none (Data.dict (List.toArray [(DictEntry.mk (PyData.keyHash P (Str.ofString "__name__")) (Value.str (Str.ofString "__name__") 165) (Value.str (Str.ofString "law_tp0035_01") 2279)), (DictEntry.mk (PyData.keyHash P (Str.ofString "__doc__")) (Value.str (Str.ofString "__doc__") 166) Value.none), (DictEntry.mk (PyData.keyHash P (Str.ofString "__package__")) (Value.str (Str.ofString "__package__") 167) Value.none), (DictEntry.mk (PyData.keyHash P (Str.ofString "__loader__")) (Value.str (Str.ofString "__loader__") 168) (Value.builtin "__main__.__loader__#opaque")), (DictEntry.mk (PyData.keyHash P (Str.ofString "__spec__")) (Value.str (Str.ofString "__spec__") 169) Value.none), (DictEntry.mk (PyData.keyHash P (Str.ofString "__annotations__")) (Value.str (Str.ofString "__annotations__") 170) (Value.ref 6)), (DictEntry.mk (PyData.keyHash P (Str.ofString "__builtins__")) (Value.str (Str.ofString "__builtins__") 171) (Value.ref 4)), (DictEntry.mk (PyData.keyHash P (Str.ofString "__file__")) (Value.str (Str.ofString "__file__") 173) (Value.str (Str.ofString "/claim/cut.py") 172)), (DictEntry.mk (PyData.keyHash P (Str.ofString "__cached__")) (Value.str (Str.ofString "__cached__") 174) Value.none), (DictEntry.mk (PyData.keyHash P (Str.ofString "rgb_to_yiq")) (Value.str (Str.ofString "rgb_to_yiq") 200) (Value.ref 21)), (DictEntry.mk (PyData.keyHash P (Str.ofString "rgb_to_hls")) (Value.str (Str.ofString "rgb_to_hls") 219) (Value.ref 28)), (DictEntry.mk (PyData.keyHash P (Str.ofString "rgb_to_hsv")) (Value.str (Str.ofString "rgb_to_hsv") 237) (Value.ref 35)), (DictEntry.mk (PyData.keyHash P (Str.ofString "CHAR_MAX")) (Value.str (Str.ofString "CHAR_MAX") 241) (Value.int (127 : Int) 240)), (DictEntry.mk (PyData.keyHash P (Str.ofString "_grouping_intervals")) (Value.str (Str.ofString "_grouping_intervals") 250) (Value.ref 42)), (DictEntry.mk (PyData.keyHash P (Str.ofString "b1_set")) (Value.str (Str.ofString "b1_set") 312) (Value.ref 50)), (DictEntry.mk (PyData.keyHash P (Str.ofString "in_table_b1")) (Value.str (Str.ofString "in_table_b1") 319) (Value.ref 60)), (DictEntry.mk (PyData.keyHash P (Str.ofString "b3_exceptions")) (Value.str (Str.ofString "b3_exceptions") 2270) (Value.ref 61)), (DictEntry.mk (PyData.keyHash P (Str.ofString "map_table_b3")) (Value.str (Str.ofString "map_table_b3") 2278) (Value.ref 106)), (DictEntry.mk (PyData.keyHash P (Str.ofString "_law_draws")) (Value.str (Str.ofString "_law_draws") 2286) (Value.ref 111)), (DictEntry.mk (PyData.keyHash P (Str.ofString "_law_sizes")) (Value.str (Str.ofString "_law_sizes") 2292) (Value.ref 116)), (DictEntry.mk (PyData.keyHash P (Str.ofString "_law_marks")) (Value.str (Str.ofString "_law_marks") 2307) (Value.ref 123)), (DictEntry.mk (PyData.keyHash P (Str.ofString "_law_levels")) (Value.str (Str.ofString "_law_levels") 2313) (Value.ref 128))]) 22) (List.toArray []))
noncomputable def o12v16 (P : Params) : Obj := (Obj.mk Value.none none (Data.fields (List.toArray [(Value.int (2 : Int) 0), (Value.int (0 : Int) 0), (Value.ref 20), (Value.int (7 : Int) 0), (Value.int (0 : Int) 0), (Value.ref 27), (Value.int (30 : Int) 0), (Value.int (0 : Int) 0), (Value.ref 34), (Value.int (51 : Int) 0), (Value.int (0 : Int) 0), (Value.ref 41), (Value.int (65 : Int) 0), (Value.int (0 : Int) 0), (Value.ref 59), (Value.int (68 : Int) 0), (Value.int (0 : Int) 0), (Value.ref 105), (Value.int (74 : Int) 0), (Value.int (0 : Int) 0), (Value.ref 110), (Value.int (76 : Int) 0), (Value.int (0 : Int) 0), (Value.ref 115), (Value.int (78 : Int) 0), (Value.int (0 : Int) 0), (Value.ref 122), (Value.int (89 : Int) 0), (Value.int (0 : Int) 0), (Value.ref 127)])) (List.toArray []))
noncomputable def o124 (P : Params) : Obj := (Obj.mk (Value.type "tuple") none (Data.seq (List.toArray []) 0) (List.toArray []))
noncomputable def o125 (P : Params) : Obj := (Obj.mk Value.none none (Data.fields (List.toArray [])) (List.toArray []))
noncomputable def o126 (P : Params) : Obj := (Obj.mk Value.none none (Data.func (FuncData.mk (Str.ofString "_law_levels") (Str.ofString "_law_levels") (fnArgs 16) (FuncBody.stmts (fnBody 16)) (fnScope 16) 0 [] Value.none Value.none Value.none Value.none none Value.none Value.none 0)) (List.toArray []))
noncomputable def o127 (P : Params) : Obj := (Obj.mk (Value.type "code") none (Data.fields (List.toArray [(Value.str (Str.ofString "_law_levels") 2308), (Value.str (Str.ofString "_law_levels") 2309), (Value.str (Str.ofString "/claim/cut.py") 2310), (Value.int (89 : Int) 0), (Value.int (1 : Int) 0), (Value.int (0 : Int) 0), (Value.int (0 : Int) 0), (Value.int (3 : Int) 0), (Value.ref 124), (Value.bool Bool.true), (Value.int (181 : Int) 0), (Value.ref 125), Value.none, Value.none, Value.none, (Value.ref 126), (Value.int (2311 : Int) 0), (Value.int (89 : Int) 0), (Value.str (Str.ofString "/claim/cut.py") 2312)])) (List.toArray []))
noncomputable def o128 (P : Params) : Obj := (Obj.mk (Value.type "function") none (Data.func (FuncData.mk (Str.ofString "_law_levels") (Str.ofString "_law_levels") (fnArgs 16) (FuncBody.stmts (fnBody 16)) (fnScope 16) 3 [] Value.none Value.none Value.none (Value.str (Str.ofString "law_tp0035_01") 2279) none (Value.ref 127) Value.none 0)) (List.toArray []))
noncomputable def o3v17 (P : Params) : Obj := (Obj.mk (Value.type "dict") none (Data.dict (List.toArray [(DictEntry.mk (PyData.keyHash P (Str.ofString "__name__")) (Value.str (Str.ofString "__name__") 165) (Value.str (Str.ofString "law_tp0035_01") 2279)), (DictEntry.mk (PyData.keyHash P (Str.ofString "__doc__")) (Value.str (Str.ofString "__doc__") 166) Value.none), (DictEntry.mk (PyData.keyHash P (Str.ofString "__package__")) (Value.str (Str.ofString "__package__") 167) Value.none), (DictEntry.mk (PyData.keyHash P (Str.ofString "__loader__")) (Value.str (Str.ofString "__loader__") 168) (Value.builtin "__main__.__loader__#opaque")), (DictEntry.mk (PyData.keyHash P (Str.ofString "__spec__")) (Value.str (Str.ofString "__spec__") 169) Value.none), (DictEntry.mk (PyData.keyHash P (Str.ofString "__annotations__")) (Value.str (Str.ofString "__annotations__") 170) (Value.ref 6)), (DictEntry.mk (PyData.keyHash P (Str.ofString "__builtins__")) (Value.str (Str.ofString "__builtins__") 171) (Value.ref 4)), (DictEntry.mk (PyData.keyHash P (Str.ofString "__file__")) (Value.str (Str.ofString "__file__") 173) (Value.str (Str.ofString "/claim/cut.py") 172)), (DictEntry.mk (PyData.keyHash P (Str.ofString "__cached__")) (Value.str (Str.ofString "__cached__") 174) Value.none), (DictEntry.mk (PyData.keyHash P (Str.ofString "rgb_to_yiq")) (Value.str (Str.ofString "rgb_to_yiq") 200) (Value.ref 21)), (DictEntry.mk (PyData.keyHash P (Str.ofString "rgb_to_hls")) (Value.str (Str.ofString "rgb_to_hls") 219) (Value.ref 28)), (DictEntry.mk (PyData.keyHash P (Str.ofString "rgb_to_hsv")) (Value.str (Str.ofString "rgb_to_hsv") 237) (Value.ref 35)), (DictEntry.mk (PyData.keyHash P (Str.ofString "CHAR_MAX")) (Value.str (Str.ofString "CHAR_MAX") 241) (Value.int (127 : Int) 240)), (DictEntry.mk (PyData.keyHash P (Str.ofString "_grouping_intervals")) (Value.str (Str.ofString "_grouping_intervals") 250) (Value.ref 42)), (DictEntry.mk (PyData.keyHash P (Str.ofString "b1_set")) (Value.str (Str.ofString "b1_set") 312) (Value.ref 50)), (DictEntry.mk (PyData.keyHash P (Str.ofString "in_table_b1")) (Value.str (Str.ofString "in_table_b1") 319) (Value.ref 60)), (DictEntry.mk (PyData.keyHash P (Str.ofString "b3_exceptions")) (Value.str (Str.ofString "b3_exceptions") 2270) (Value.ref 61)), (DictEntry.mk (PyData.keyHash P (Str.ofString "map_table_b3")) (Value.str (Str.ofString "map_table_b3") 2278) (Value.ref 106)), (DictEntry.mk (PyData.keyHash P (Str.ofString "_law_draws")) (Value.str (Str.ofString "_law_draws") 2286) (Value.ref 111)), (DictEntry.mk (PyData.keyHash P (Str.ofString "_law_sizes")) (Value.str (Str.ofString "_law_sizes") 2292) (Value.ref 116)), (DictEntry.mk (PyData.keyHash P (Str.ofString "_law_marks")) (Value.str (Str.ofString "_law_marks") 2307) (Value.ref 123)), (DictEntry.mk (PyData.keyHash P (Str.ofString "_law_levels")) (Value.str (Str.ofString "_law_levels") 2313) (Value.ref 128)), (DictEntry.mk (PyData.keyHash P (Str.ofString "_law_typed")) (Value.str (Str.ofString "_law_typed") 2325) (Value.ref 135))]) 23) (List.toArray []))
noncomputable def o12v17 (P : Params) : Obj := (Obj.mk Value.none none (Data.fields (List.toArray [(Value.int (2 : Int) 0), (Value.int (0 : Int) 0), (Value.ref 20), (Value.int (7 : Int) 0), (Value.int (0 : Int) 0), (Value.ref 27), (Value.int (30 : Int) 0), (Value.int (0 : Int) 0), (Value.ref 34), (Value.int (51 : Int) 0), (Value.int (0 : Int) 0), (Value.ref 41), (Value.int (65 : Int) 0), (Value.int (0 : Int) 0), (Value.ref 59), (Value.int (68 : Int) 0), (Value.int (0 : Int) 0), (Value.ref 105), (Value.int (74 : Int) 0), (Value.int (0 : Int) 0), (Value.ref 110), (Value.int (76 : Int) 0), (Value.int (0 : Int) 0), (Value.ref 115), (Value.int (78 : Int) 0), (Value.int (0 : Int) 0), (Value.ref 122), (Value.int (89 : Int) 0), (Value.int (0 : Int) 0), (Value.ref 127), (Value.int (93 : Int) 0), (Value.int (0 : Int) 0), (Value.ref 134)])) (List.toArray []))
noncomputable def o129 (P : Params) : Obj := (Obj.mk (Value.type "tuple") none (Data.seq (List.toArray []) 0) (List.toArray []))
noncomputable def o130 (P : Params) : Obj := (Obj.mk Value.none none (Data.fields (List.toArray [])) (List.toArray []))
noncomputable def o131 (P : Params) : Obj := (Obj.mk (Value.type "tuple") none (Data.seq (List.toArray [(Value.str (Str.ofString "number") 2317), (Value.str (Str.ofString "rest") 2318), (Value.str (Str.ofString "text") 2319), (Value.str (Str.ofString "size") 2320), (Value.str (Str.ofString "letter") 2321), (Value.str (Str.ofString "base") 2322)]) 0) (List.toArray []))
noncomputable def o132 (P : Params) : Obj := (Obj.mk (Value.type "tuple") none (Data.seq (List.toArray []) 0) (List.toArray []))
noncomputable def o133 (P : Params) : Obj := (Obj.mk Value.none none (Data.func (FuncData.mk (Str.ofString "_law_typed") (Str.ofString "_law_typed") (fnArgs 17) (FuncBody.stmts (fnBody 17)) (fnScope 17) 0 [] Value.none Value.none Value.none Value.none none Value.none Value.none 0)) (List.toArray []))
noncomputable def o134 (P : Params) : Obj := (Obj.mk (Value.type "code") none (Data.fields (List.toArray [(Value.str (Str.ofString "_law_typed") 2314), (Value.str (Str.ofString "_law_typed") 2315), (Value.str (Str.ofString "/claim/cut.py") 2316), (Value.int (93 : Int) 0), (Value.int (1 : Int) 0), (Value.int (0 : Int) 0), (Value.int (0 : Int) 0), (Value.int (3 : Int) 0), (Value.ref 129), (Value.bool Bool.true), (Value.int (181 : Int) 0), (Value.ref 130), Value.none, (Value.ref 131), (Value.ref 132), (Value.ref 133), (Value.int (2323 : Int) 0), (Value.int (93 : Int) 0), (Value.str (Str.ofString "/claim/cut.py") 2324)])) (List.toArray []))
noncomputable def o135 (P : Params) : Obj := (Obj.mk (Value.type "function") none (Data.func (FuncData.mk (Str.ofString "_law_typed") (Str.ofString "_law_typed") (fnArgs 17) (FuncBody.stmts (fnBody 17)) (fnScope 17) 3 [] Value.none Value.none Value.none (Value.str (Str.ofString "law_tp0035_01") 2279) none (Value.ref 134) Value.none 0)) (List.toArray []))
noncomputable def o3v18 (P : Params) : Obj := (Obj.mk (Value.type "dict") none (Data.dict (List.toArray [(DictEntry.mk (PyData.keyHash P (Str.ofString "__name__")) (Value.str (Str.ofString "__name__") 165) (Value.str (Str.ofString "law_tp0035_01") 2279)), (DictEntry.mk (PyData.keyHash P (Str.ofString "__doc__")) (Value.str (Str.ofString "__doc__") 166) Value.none), (DictEntry.mk (PyData.keyHash P (Str.ofString "__package__")) (Value.str (Str.ofString "__package__") 167) Value.none), (DictEntry.mk (PyData.keyHash P (Str.ofString "__loader__")) (Value.str (Str.ofString "__loader__") 168) (Value.builtin "__main__.__loader__#opaque")), (DictEntry.mk (PyData.keyHash P (Str.ofString "__spec__")) (Value.str (Str.ofString "__spec__") 169) Value.none), (DictEntry.mk (PyData.keyHash P (Str.ofString "__annotations__")) (Value.str (Str.ofString "__annotations__") 170) (Value.ref 6)), (DictEntry.mk (PyData.keyHash P (Str.ofString "__builtins__")) (Value.str (Str.ofString "__builtins__") 171) (Value.ref 4)), (DictEntry.mk (PyData.keyHash P (Str.ofString "__file__")) (Value.str (Str.ofString "__file__") 173) (Value.str (Str.ofString "/claim/cut.py") 172)), (DictEntry.mk (PyData.keyHash P (Str.ofString "__cached__")) (Value.str (Str.ofString "__cached__") 174) Value.none), (DictEntry.mk (PyData.keyHash P (Str.ofString "rgb_to_yiq")) (Value.str (Str.ofString "rgb_to_yiq") 200) (Value.ref 21)), (DictEntry.mk (PyData.keyHash P (Str.ofString "rgb_to_hls")) (Value.str (Str.ofString "rgb_to_hls") 219) (Value.ref 28)), (DictEntry.mk (PyData.keyHash P (Str.ofString "rgb_to_hsv")) (Value.str (Str.ofString "rgb_to_hsv") 237) (Value.ref 35)), (DictEntry.mk (PyData.keyHash P (Str.ofString "CHAR_MAX")) (Value.str (Str.ofString "CHAR_MAX") 241) (Value.int (127 : Int) 240)), (DictEntry.mk (PyData.keyHash P (Str.ofString "_grouping_intervals")) (Value.str (Str.ofString "_grouping_intervals") 250) (Value.ref 42)), (DictEntry.mk (PyData.keyHash P (Str.ofString "b1_set")) (Value.str (Str.ofString "b1_set") 312) (Value.ref 50)), (DictEntry.mk (PyData.keyHash P (Str.ofString "in_table_b1")) (Value.str (Str.ofString "in_table_b1") 319) (Value.ref 60)), (DictEntry.mk (PyData.keyHash P (Str.ofString "b3_exceptions")) (Value.str (Str.ofString "b3_exceptions") 2270) (Value.ref 61)), (DictEntry.mk (PyData.keyHash P (Str.ofString "map_table_b3")) (Value.str (Str.ofString "map_table_b3") 2278) (Value.ref 106)), (DictEntry.mk (PyData.keyHash P (Str.ofString "_law_draws")) (Value.str (Str.ofString "_law_draws") 2286) (Value.ref 111)), (DictEntry.mk (PyData.keyHash P (Str.ofString "_law_sizes")) (Value.str (Str.ofString "_law_sizes") 2292) (Value.ref 116)), (DictEntry.mk (PyData.keyHash P (Str.ofString "_law_marks")) (Value.str (Str.ofString "_law_marks") 2307) (Value.ref 123)), (DictEntry.mk (PyData.keyHash P (Str.ofString "_law_levels")) (Value.str (Str.ofString "_law_levels") 2313) (Value.ref 128)), (DictEntry.mk (PyData.keyHash P (Str.ofString "_law_typed")) (Value.str (Str.ofString "_law_typed") 2325) (Value.ref 135)), (DictEntry.mk (PyData.keyHash P (Str.ofString "_law_dealt")) (Value.str (Str.ofString "_law_dealt") 2331) (Value.ref 140))]) 24) (List.toArray []))
noncomputable def o12v18 (P : Params) : Obj := (Obj.mk Value.none none (Data.fields (List.toArray [(Value.int (2 : Int) 0), (Value.int (0 : Int) 0), (Value.ref 20), (Value.int (7 : Int) 0), (Value.int (0 : Int) 0), (Value.ref 27), (Value.int (30 : Int) 0), (Value.int (0 : Int) 0), (Value.ref 34), (Value.int (51 : Int) 0), (Value.int (0 : Int) 0), (Value.ref 41), (Value.int (65 : Int) 0), (Value.int (0 : Int) 0), (Value.ref 59), (Value.int (68 : Int) 0), (Value.int (0 : Int) 0), (Value.ref 105), (Value.int (74 : Int) 0), (Value.int (0 : Int) 0), (Value.ref 110), (Value.int (76 : Int) 0), (Value.int (0 : Int) 0), (Value.ref 115), (Value.int (78 : Int) 0), (Value.int (0 : Int) 0), (Value.ref 122), (Value.int (89 : Int) 0), (Value.int (0 : Int) 0), (Value.ref 127), (Value.int (93 : Int) 0), (Value.int (0 : Int) 0), (Value.ref 134), (Value.int (103 : Int) 0), (Value.int (0 : Int) 0), (Value.ref 139)])) (List.toArray []))
noncomputable def o136 (P : Params) : Obj := (Obj.mk (Value.type "tuple") none (Data.seq (List.toArray []) 0) (List.toArray []))
noncomputable def o137 (P : Params) : Obj := (Obj.mk Value.none none (Data.fields (List.toArray [])) (List.toArray []))
noncomputable def o138 (P : Params) : Obj := (Obj.mk Value.none none (Data.func (FuncData.mk (Str.ofString "_law_dealt") (Str.ofString "_law_dealt") (fnArgs 18) (FuncBody.stmts (fnBody 18)) (fnScope 18) 0 [] Value.none Value.none Value.none Value.none none Value.none Value.none 0)) (List.toArray []))
noncomputable def o139 (P : Params) : Obj := (Obj.mk (Value.type "code") none (Data.fields (List.toArray [(Value.str (Str.ofString "_law_dealt") 2326), (Value.str (Str.ofString "_law_dealt") 2327), (Value.str (Str.ofString "/claim/cut.py") 2328), (Value.int (103 : Int) 0), (Value.int (2 : Int) 0), (Value.int (0 : Int) 0), (Value.int (0 : Int) 0), (Value.int (3 : Int) 0), (Value.ref 136), (Value.bool Bool.true), (Value.int (181 : Int) 0), (Value.ref 137), Value.none, Value.none, Value.none, (Value.ref 138), (Value.int (2329 : Int) 0), (Value.int (103 : Int) 0), (Value.str (Str.ofString "/claim/cut.py") 2330)])) (List.toArray []))
noncomputable def o140 (P : Params) : Obj := (Obj.mk (Value.type "function") none (Data.func (FuncData.mk (Str.ofString "_law_dealt") (Str.ofString "_law_dealt") (fnArgs 18) (FuncBody.stmts (fnBody 18)) (fnScope 18) 3 [] Value.none Value.none Value.none (Value.str (Str.ofString "law_tp0035_01") 2279) none (Value.ref 139) Value.none 0)) (List.toArray []))
noncomputable def o3v19 (P : Params) : Obj := (Obj.mk (Value.type "dict") none (Data.dict (List.toArray [(DictEntry.mk (PyData.keyHash P (Str.ofString "__name__")) (Value.str (Str.ofString "__name__") 165) (Value.str (Str.ofString "law_tp0035_01") 2279)), (DictEntry.mk (PyData.keyHash P (Str.ofString "__doc__")) (Value.str (Str.ofString "__doc__") 166) Value.none), (DictEntry.mk (PyData.keyHash P (Str.ofString "__package__")) (Value.str (Str.ofString "__package__") 167) Value.none), (DictEntry.mk (PyData.keyHash P (Str.ofString "__loader__")) (Value.str (Str.ofString "__loader__") 168) (Value.builtin "__main__.__loader__#opaque")), (DictEntry.mk (PyData.keyHash P (Str.ofString "__spec__")) (Value.str (Str.ofString "__spec__") 169) Value.none), (DictEntry.mk (PyData.keyHash P (Str.ofString "__annotations__")) (Value.str (Str.ofString "__annotations__") 170) (Value.ref 6)), (DictEntry.mk (PyData.keyHash P (Str.ofString "__builtins__")) (Value.str (Str.ofString "__builtins__") 171) (Value.ref 4)), (DictEntry.mk (PyData.keyHash P (Str.ofString "__file__")) (Value.str (Str.ofString "__file__") 173) (Value.str (Str.ofString "/claim/cut.py") 172)), (DictEntry.mk (PyData.keyHash P (Str.ofString "__cached__")) (Value.str (Str.ofString "__cached__") 174) Value.none), (DictEntry.mk (PyData.keyHash P (Str.ofString "rgb_to_yiq")) (Value.str (Str.ofString "rgb_to_yiq") 200) (Value.ref 21)), (DictEntry.mk (PyData.keyHash P (Str.ofString "rgb_to_hls")) (Value.str (Str.ofString "rgb_to_hls") 219) (Value.ref 28)), (DictEntry.mk (PyData.keyHash P (Str.ofString "rgb_to_hsv")) (Value.str (Str.ofString "rgb_to_hsv") 237) (Value.ref 35)), (DictEntry.mk (PyData.keyHash P (Str.ofString "CHAR_MAX")) (Value.str (Str.ofString "CHAR_MAX") 241) (Value.int (127 : Int) 240)), (DictEntry.mk (PyData.keyHash P (Str.ofString "_grouping_intervals")) (Value.str (Str.ofString "_grouping_intervals") 250) (Value.ref 42)), (DictEntry.mk (PyData.keyHash P (Str.ofString "b1_set")) (Value.str (Str.ofString "b1_set") 312) (Value.ref 50)), (DictEntry.mk (PyData.keyHash P (Str.ofString "in_table_b1")) (Value.str (Str.ofString "in_table_b1") 319) (Value.ref 60)), (DictEntry.mk (PyData.keyHash P (Str.ofString "b3_exceptions")) (Value.str (Str.ofString "b3_exceptions") 2270) (Value.ref 61)), (DictEntry.mk (PyData.keyHash P (Str.ofString "map_table_b3")) (Value.str (Str.ofString "map_table_b3") 2278) (Value.ref 106)), (DictEntry.mk (PyData.keyHash P (Str.ofString "_law_draws")) (Value.str (Str.ofString "_law_draws") 2286) (Value.ref 111)), (DictEntry.mk (PyData.keyHash P (Str.ofString "_law_sizes")) (Value.str (Str.ofString "_law_sizes") 2292) (Value.ref 116)), (DictEntry.mk (PyData.keyHash P (Str.ofString "_law_marks")) (Value.str (Str.ofString "_law_marks") 2307) (Value.ref 123)), (DictEntry.mk (PyData.keyHash P (Str.ofString "_law_levels")) (Value.str (Str.ofString "_law_levels") 2313) (Value.ref 128)), (DictEntry.mk (PyData.keyHash P (Str.ofString "_law_typed")) (Value.str (Str.ofString "_law_typed") 2325) (Value.ref 135)), (DictEntry.mk (PyData.keyHash P (Str.ofString "_law_dealt")) (Value.str (Str.ofString "_law_dealt") 2331) (Value.ref 140)), (DictEntry.mk (PyData.keyHash P (Str.ofString "_law_seen")) (Value.str (Str.ofString "_law_seen") 2349) (Value.ref 147))]) 25) (List.toArray []))
noncomputable def o12v19 (P : Params) : Obj := (Obj.mk Value.none none (Data.fields (List.toArray [(Value.int (2 : Int) 0), (Value.int (0 : Int) 0), (Value.ref 20), (Value.int (7 : Int) 0), (Value.int (0 : Int) 0), (Value.ref 27), (Value.int (30 : Int) 0), (Value.int (0 : Int) 0), (Value.ref 34), (Value.int (51 : Int) 0), (Value.int (0 : Int) 0), (Value.ref 41), (Value.int (65 : Int) 0), (Value.int (0 : Int) 0), (Value.ref 59), (Value.int (68 : Int) 0), (Value.int (0 : Int) 0), (Value.ref 105), (Value.int (74 : Int) 0), (Value.int (0 : Int) 0), (Value.ref 110), (Value.int (76 : Int) 0), (Value.int (0 : Int) 0), (Value.ref 115), (Value.int (78 : Int) 0), (Value.int (0 : Int) 0), (Value.ref 122), (Value.int (89 : Int) 0), (Value.int (0 : Int) 0), (Value.ref 127), (Value.int (93 : Int) 0), (Value.int (0 : Int) 0), (Value.ref 134), (Value.int (103 : Int) 0), (Value.int (0 : Int) 0), (Value.ref 139), (Value.int (106 : Int) 0), (Value.int (0 : Int) 0), (Value.ref 146)])) (List.toArray []))
noncomputable def o141 (P : Params) : Obj := (Obj.mk (Value.type "tuple") none (Data.seq (List.toArray []) 0) (List.toArray []))
noncomputable def o142 (P : Params) : Obj := (Obj.mk Value.none none (Data.fields (List.toArray [])) (List.toArray []))
noncomputable def o143 (P : Params) : Obj := (Obj.mk (Value.type "tuple") none (Data.seq (List.toArray [(Value.str (Str.ofString "palette") 2335), (Value.str (Str.ofString "tops") 2336), (Value.str (Str.ofString "lows") 2337), (Value.str (Str.ofString "tints") 2338), (Value.str (Str.ofString "red") 2339), (Value.str (Str.ofString "green") 2340), (Value.str (Str.ofString "blue") 2341), (Value.str (Str.ofString "value") 2342), (Value.str (Str.ofString "lightness") 2343), (Value.str (Str.ofString "luma") 2344), (Value.str (Str.ofString "warm") 2345), (Value.str (Str.ofString "cool") 2346)]) 0) (List.toArray []))
noncomputable def o144 (P : Params) : Obj := (Obj.mk (Value.type "tuple") none (Data.seq (List.toArray []) 0) (List.toArray []))
noncomputable def o145 (P : Params) : Obj := (Obj.mk Value.none none (Data.func (FuncData.mk (Str.ofString "_law_seen") (Str.ofString "_law_seen") (fnArgs 19) (FuncBody.stmts (fnBody 19)) (fnScope 19) 0 [] Value.none Value.none Value.none Value.none none Value.none Value.none 0)) (List.toArray []))
noncomputable def o146 (P : Params) : Obj := (Obj.mk (Value.type "code") none (Data.fields (List.toArray [(Value.str (Str.ofString "_law_seen") 2332), (Value.str (Str.ofString "_law_seen") 2333), (Value.str (Str.ofString "/claim/cut.py") 2334), (Value.int (106 : Int) 0), (Value.int (1 : Int) 0), (Value.int (0 : Int) 0), (Value.int (0 : Int) 0), (Value.int (3 : Int) 0), (Value.ref 141), (Value.bool Bool.true), (Value.int (181 : Int) 0), (Value.ref 142), Value.none, (Value.ref 143), (Value.ref 144), (Value.ref 145), (Value.int (2347 : Int) 0), (Value.int (106 : Int) 0), (Value.str (Str.ofString "/claim/cut.py") 2348)])) (List.toArray []))
noncomputable def o147 (P : Params) : Obj := (Obj.mk (Value.type "function") none (Data.func (FuncData.mk (Str.ofString "_law_seen") (Str.ofString "_law_seen") (fnArgs 19) (FuncBody.stmts (fnBody 19)) (fnScope 19) 3 [] Value.none Value.none Value.none (Value.str (Str.ofString "law_tp0035_01") 2279) none (Value.ref 146) Value.none 0)) (List.toArray []))
noncomputable def o3v20 (P : Params) : Obj := (Obj.mk (Value.type "dict") none (Data.dict (List.toArray [(DictEntry.mk (PyData.keyHash P (Str.ofString "__name__")) (Value.str (Str.ofString "__name__") 165) (Value.str (Str.ofString "law_tp0035_01") 2279)), (DictEntry.mk (PyData.keyHash P (Str.ofString "__doc__")) (Value.str (Str.ofString "__doc__") 166) Value.none), (DictEntry.mk (PyData.keyHash P (Str.ofString "__package__")) (Value.str (Str.ofString "__package__") 167) Value.none), (DictEntry.mk (PyData.keyHash P (Str.ofString "__loader__")) (Value.str (Str.ofString "__loader__") 168) (Value.builtin "__main__.__loader__#opaque")), (DictEntry.mk (PyData.keyHash P (Str.ofString "__spec__")) (Value.str (Str.ofString "__spec__") 169) Value.none), (DictEntry.mk (PyData.keyHash P (Str.ofString "__annotations__")) (Value.str (Str.ofString "__annotations__") 170) (Value.ref 6)), (DictEntry.mk (PyData.keyHash P (Str.ofString "__builtins__")) (Value.str (Str.ofString "__builtins__") 171) (Value.ref 4)), (DictEntry.mk (PyData.keyHash P (Str.ofString "__file__")) (Value.str (Str.ofString "__file__") 173) (Value.str (Str.ofString "/claim/cut.py") 172)), (DictEntry.mk (PyData.keyHash P (Str.ofString "__cached__")) (Value.str (Str.ofString "__cached__") 174) Value.none), (DictEntry.mk (PyData.keyHash P (Str.ofString "rgb_to_yiq")) (Value.str (Str.ofString "rgb_to_yiq") 200) (Value.ref 21)), (DictEntry.mk (PyData.keyHash P (Str.ofString "rgb_to_hls")) (Value.str (Str.ofString "rgb_to_hls") 219) (Value.ref 28)), (DictEntry.mk (PyData.keyHash P (Str.ofString "rgb_to_hsv")) (Value.str (Str.ofString "rgb_to_hsv") 237) (Value.ref 35)), (DictEntry.mk (PyData.keyHash P (Str.ofString "CHAR_MAX")) (Value.str (Str.ofString "CHAR_MAX") 241) (Value.int (127 : Int) 240)), (DictEntry.mk (PyData.keyHash P (Str.ofString "_grouping_intervals")) (Value.str (Str.ofString "_grouping_intervals") 250) (Value.ref 42)), (DictEntry.mk (PyData.keyHash P (Str.ofString "b1_set")) (Value.str (Str.ofString "b1_set") 312) (Value.ref 50)), (DictEntry.mk (PyData.keyHash P (Str.ofString "in_table_b1")) (Value.str (Str.ofString "in_table_b1") 319) (Value.ref 60)), (DictEntry.mk (PyData.keyHash P (Str.ofString "b3_exceptions")) (Value.str (Str.ofString "b3_exceptions") 2270) (Value.ref 61)), (DictEntry.mk (PyData.keyHash P (Str.ofString "map_table_b3")) (Value.str (Str.ofString "map_table_b3") 2278) (Value.ref 106)), (DictEntry.mk (PyData.keyHash P (Str.ofString "_law_draws")) (Value.str (Str.ofString "_law_draws") 2286) (Value.ref 111)), (DictEntry.mk (PyData.keyHash P (Str.ofString "_law_sizes")) (Value.str (Str.ofString "_law_sizes") 2292) (Value.ref 116)), (DictEntry.mk (PyData.keyHash P (Str.ofString "_law_marks")) (Value.str (Str.ofString "_law_marks") 2307) (Value.ref 123)), (DictEntry.mk (PyData.keyHash P (Str.ofString "_law_levels")) (Value.str (Str.ofString "_law_levels") 2313) (Value.ref 128)), (DictEntry.mk (PyData.keyHash P (Str.ofString "_law_typed")) (Value.str (Str.ofString "_law_typed") 2325) (Value.ref 135)), (DictEntry.mk (PyData.keyHash P (Str.ofString "_law_dealt")) (Value.str (Str.ofString "_law_dealt") 2331) (Value.ref 140)), (DictEntry.mk (PyData.keyHash P (Str.ofString "_law_seen")) (Value.str (Str.ofString "_law_seen") 2349) (Value.ref 147)), (DictEntry.mk (PyData.keyHash P (Str.ofString "_law_no_worse")) (Value.str (Str.ofString "_law_no_worse") 2355) (Value.ref 152))]) 26) (List.toArray []))
noncomputable def o12v20 (P : Params) : Obj := (Obj.mk Value.none none (Data.fields (List.toArray [(Value.int (2 : Int) 0), (Value.int (0 : Int) 0), (Value.ref 20), (Value.int (7 : Int) 0), (Value.int (0 : Int) 0), (Value.ref 27), (Value.int (30 : Int) 0), (Value.int (0 : Int) 0), (Value.ref 34), (Value.int (51 : Int) 0), (Value.int (0 : Int) 0), (Value.ref 41), (Value.int (65 : Int) 0), (Value.int (0 : Int) 0), (Value.ref 59), (Value.int (68 : Int) 0), (Value.int (0 : Int) 0), (Value.ref 105), (Value.int (74 : Int) 0), (Value.int (0 : Int) 0), (Value.ref 110), (Value.int (76 : Int) 0), (Value.int (0 : Int) 0), (Value.ref 115), (Value.int (78 : Int) 0), (Value.int (0 : Int) 0), (Value.ref 122), (Value.int (89 : Int) 0), (Value.int (0 : Int) 0), (Value.ref 127), (Value.int (93 : Int) 0), (Value.int (0 : Int) 0), (Value.ref 134), (Value.int (103 : Int) 0), (Value.int (0 : Int) 0), (Value.ref 139), (Value.int (106 : Int) 0), (Value.int (0 : Int) 0), (Value.ref 146), (Value.int (118 : Int) 0), (Value.int (0 : Int) 0), (Value.ref 151)])) (List.toArray []))
noncomputable def o148 (P : Params) : Obj := (Obj.mk (Value.type "tuple") none (Data.seq (List.toArray []) 0) (List.toArray []))
noncomputable def o149 (P : Params) : Obj := (Obj.mk Value.none none (Data.fields (List.toArray [])) (List.toArray []))
noncomputable def o150 (P : Params) : Obj := (Obj.mk Value.none none (Data.func (FuncData.mk (Str.ofString "_law_no_worse") (Str.ofString "_law_no_worse") (fnArgs 20) (FuncBody.stmts (fnBody 20)) (fnScope 20) 0 [] Value.none Value.none Value.none Value.none none Value.none Value.none 0)) (List.toArray []))
noncomputable def o151 (P : Params) : Obj := (Obj.mk (Value.type "code") none (Data.fields (List.toArray [(Value.str (Str.ofString "_law_no_worse") 2350), (Value.str (Str.ofString "_law_no_worse") 2351), (Value.str (Str.ofString "/claim/cut.py") 2352), (Value.int (118 : Int) 0), (Value.int (2 : Int) 0), (Value.int (0 : Int) 0), (Value.int (0 : Int) 0), (Value.int (3 : Int) 0), (Value.ref 148), (Value.bool Bool.true), (Value.int (181 : Int) 0), (Value.ref 149), Value.none, Value.none, Value.none, (Value.ref 150), (Value.int (2353 : Int) 0), (Value.int (118 : Int) 0), (Value.str (Str.ofString "/claim/cut.py") 2354)])) (List.toArray []))
noncomputable def o152 (P : Params) : Obj := (Obj.mk (Value.type "function") none (Data.func (FuncData.mk (Str.ofString "_law_no_worse") (Str.ofString "_law_no_worse") (fnArgs 20) (FuncBody.stmts (fnBody 20)) (fnScope 20) 3 [] Value.none Value.none Value.none (Value.str (Str.ofString "law_tp0035_01") 2279) none (Value.ref 151) Value.none 0)) (List.toArray []))
noncomputable def o3v21 (P : Params) : Obj := (Obj.mk (Value.type "dict") none (Data.dict (List.toArray [(DictEntry.mk (PyData.keyHash P (Str.ofString "__name__")) (Value.str (Str.ofString "__name__") 165) (Value.str (Str.ofString "law_tp0035_01") 2279)), (DictEntry.mk (PyData.keyHash P (Str.ofString "__doc__")) (Value.str (Str.ofString "__doc__") 166) Value.none), (DictEntry.mk (PyData.keyHash P (Str.ofString "__package__")) (Value.str (Str.ofString "__package__") 167) Value.none), (DictEntry.mk (PyData.keyHash P (Str.ofString "__loader__")) (Value.str (Str.ofString "__loader__") 168) (Value.builtin "__main__.__loader__#opaque")), (DictEntry.mk (PyData.keyHash P (Str.ofString "__spec__")) (Value.str (Str.ofString "__spec__") 169) Value.none), (DictEntry.mk (PyData.keyHash P (Str.ofString "__annotations__")) (Value.str (Str.ofString "__annotations__") 170) (Value.ref 6)), (DictEntry.mk (PyData.keyHash P (Str.ofString "__builtins__")) (Value.str (Str.ofString "__builtins__") 171) (Value.ref 4)), (DictEntry.mk (PyData.keyHash P (Str.ofString "__file__")) (Value.str (Str.ofString "__file__") 173) (Value.str (Str.ofString "/claim/cut.py") 172)), (DictEntry.mk (PyData.keyHash P (Str.ofString "__cached__")) (Value.str (Str.ofString "__cached__") 174) Value.none), (DictEntry.mk (PyData.keyHash P (Str.ofString "rgb_to_yiq")) (Value.str (Str.ofString "rgb_to_yiq") 200) (Value.ref 21)), (DictEntry.mk (PyData.keyHash P (Str.ofString "rgb_to_hls")) (Value.str (Str.ofString "rgb_to_hls") 219) (Value.ref 28)), (DictEntry.mk (PyData.keyHash P (Str.ofString "rgb_to_hsv")) (Value.str (Str.ofString "rgb_to_hsv") 237) (Value.ref 35)), (DictEntry.mk (PyData.keyHash P (Str.ofString "CHAR_MAX")) (Value.str (Str.ofString "CHAR_MAX") 241) (Value.int (127 : Int) 240)), (DictEntry.mk (PyData.keyHash P (Str.ofString "_grouping_intervals")) (Value.str (Str.ofString "_grouping_intervals") 250) (Value.ref 42)), (DictEntry.mk (PyData.keyHash P (Str.ofString "b1_set")) (Value.str (Str.ofString "b1_set") 312) (Value.ref 50)), (DictEntry.mk (PyData.keyHash P (Str.ofString "in_table_b1")) (Value.str (Str.ofString "in_table_b1") 319) (Value.ref 60)), (DictEntry.mk (PyData.keyHash P (Str.ofString "b3_exceptions")) (Value.str (Str.ofString "b3_exceptions") 2270) (Value.ref 61)), (DictEntry.mk (PyData.keyHash P (Str.ofString "map_table_b3")) (Value.str (Str.ofString "map_table_b3") 2278) (Value.ref 106)), (DictEntry.mk (PyData.keyHash P (Str.ofString "_law_draws")) (Value.str (Str.ofString "_law_draws") 2286) (Value.ref 111)), (DictEntry.mk (PyData.keyHash P (Str.ofString "_law_sizes")) (Value.str (Str.ofString "_law_sizes") 2292) (Value.ref 116)), (DictEntry.mk (PyData.keyHash P (Str.ofString "_law_marks")) (Value.str (Str.ofString "_law_marks") 2307) (Value.ref 123)), (DictEntry.mk (PyData.keyHash P (Str.ofString "_law_levels")) (Value.str (Str.ofString "_law_levels") 2313) (Value.ref 128)), (DictEntry.mk (PyData.keyHash P (Str.ofString "_law_typed")) (Value.str (Str.ofString "_law_typed") 2325) (Value.ref 135)), (DictEntry.mk (PyData.keyHash P (Str.ofString "_law_dealt")) (Value.str (Str.ofString "_law_dealt") 2331) (Value.ref 140)), (DictEntry.mk (PyData.keyHash P (Str.ofString "_law_seen")) (Value.str (Str.ofString "_law_seen") 2349) (Value.ref 147)), (DictEntry.mk (PyData.keyHash P (Str.ofString "_law_no_worse")) (Value.str (Str.ofString "_law_no_worse") 2355) (Value.ref 152)), (DictEntry.mk (PyData.keyHash P (Str.ofString "_law_untangled")) (Value.str (Str.ofString "_law_untangled") 2361) (Value.ref 157))]) 27) (List.toArray []))
noncomputable def o12v21 (P : Params) : Obj := (Obj.mk Value.none none (Data.fields (List.toArray [(Value.int (2 : Int) 0), (Value.int (0 : Int) 0), (Value.ref 20), (Value.int (7 : Int) 0), (Value.int (0 : Int) 0), (Value.ref 27), (Value.int (30 : Int) 0), (Value.int (0 : Int) 0), (Value.ref 34), (Value.int (51 : Int) 0), (Value.int (0 : Int) 0), (Value.ref 41), (Value.int (65 : Int) 0), (Value.int (0 : Int) 0), (Value.ref 59), (Value.int (68 : Int) 0), (Value.int (0 : Int) 0), (Value.ref 105), (Value.int (74 : Int) 0), (Value.int (0 : Int) 0), (Value.ref 110), (Value.int (76 : Int) 0), (Value.int (0 : Int) 0), (Value.ref 115), (Value.int (78 : Int) 0), (Value.int (0 : Int) 0), (Value.ref 122), (Value.int (89 : Int) 0), (Value.int (0 : Int) 0), (Value.ref 127), (Value.int (93 : Int) 0), (Value.int (0 : Int) 0), (Value.ref 134), (Value.int (103 : Int) 0), (Value.int (0 : Int) 0), (Value.ref 139), (Value.int (106 : Int) 0), (Value.int (0 : Int) 0), (Value.ref 146), (Value.int (118 : Int) 0), (Value.int (0 : Int) 0), (Value.ref 151), (Value.int (128 : Int) 0), (Value.int (0 : Int) 0), (Value.ref 156)])) (List.toArray []))
noncomputable def o153 (P : Params) : Obj := (Obj.mk (Value.type "tuple") none (Data.seq (List.toArray []) 0) (List.toArray []))
noncomputable def o154 (P : Params) : Obj := (Obj.mk Value.none none (Data.fields (List.toArray [])) (List.toArray []))
noncomputable def o155 (P : Params) : Obj := (Obj.mk Value.none none (Data.func (FuncData.mk (Str.ofString "_law_untangled") (Str.ofString "_law_untangled") (fnArgs 21) (FuncBody.stmts (fnBody 21)) (fnScope 21) 0 [] Value.none Value.none Value.none Value.none none Value.none Value.none 0)) (List.toArray []))
noncomputable def o156 (P : Params) : Obj := (Obj.mk (Value.type "code") none (Data.fields (List.toArray [(Value.str (Str.ofString "_law_untangled") 2356), (Value.str (Str.ofString "_law_untangled") 2357), (Value.str (Str.ofString "/claim/cut.py") 2358), (Value.int (128 : Int) 0), (Value.int (2 : Int) 0), (Value.int (0 : Int) 0), (Value.int (0 : Int) 0), (Value.int (3 : Int) 0), (Value.ref 153), (Value.bool Bool.true), (Value.int (181 : Int) 0), (Value.ref 154), Value.none, Value.none, Value.none, (Value.ref 155), (Value.int (2359 : Int) 0), (Value.int (128 : Int) 0), (Value.str (Str.ofString "/claim/cut.py") 2360)])) (List.toArray []))
noncomputable def o157 (P : Params) : Obj := (Obj.mk (Value.type "function") none (Data.func (FuncData.mk (Str.ofString "_law_untangled") (Str.ofString "_law_untangled") (fnArgs 21) (FuncBody.stmts (fnBody 21)) (fnScope 21) 3 [] Value.none Value.none Value.none (Value.str (Str.ofString "law_tp0035_01") 2279) none (Value.ref 156) Value.none 0)) (List.toArray []))
noncomputable def o3v22 (P : Params) : Obj := (Obj.mk (Value.type "dict") none (Data.dict (List.toArray [(DictEntry.mk (PyData.keyHash P (Str.ofString "__name__")) (Value.str (Str.ofString "__name__") 165) (Value.str (Str.ofString "law_tp0035_01") 2279)), (DictEntry.mk (PyData.keyHash P (Str.ofString "__doc__")) (Value.str (Str.ofString "__doc__") 166) Value.none), (DictEntry.mk (PyData.keyHash P (Str.ofString "__package__")) (Value.str (Str.ofString "__package__") 167) Value.none), (DictEntry.mk (PyData.keyHash P (Str.ofString "__loader__")) (Value.str (Str.ofString "__loader__") 168) (Value.builtin "__main__.__loader__#opaque")), (DictEntry.mk (PyData.keyHash P (Str.ofString "__spec__")) (Value.str (Str.ofString "__spec__") 169) Value.none), (DictEntry.mk (PyData.keyHash P (Str.ofString "__annotations__")) (Value.str (Str.ofString "__annotations__") 170) (Value.ref 6)), (DictEntry.mk (PyData.keyHash P (Str.ofString "__builtins__")) (Value.str (Str.ofString "__builtins__") 171) (Value.ref 4)), (DictEntry.mk (PyData.keyHash P (Str.ofString "__file__")) (Value.str (Str.ofString "__file__") 173) (Value.str (Str.ofString "/claim/cut.py") 172)), (DictEntry.mk (PyData.keyHash P (Str.ofString "__cached__")) (Value.str (Str.ofString "__cached__") 174) Value.none), (DictEntry.mk (PyData.keyHash P (Str.ofString "rgb_to_yiq")) (Value.str (Str.ofString "rgb_to_yiq") 200) (Value.ref 21)), (DictEntry.mk (PyData.keyHash P (Str.ofString "rgb_to_hls")) (Value.str (Str.ofString "rgb_to_hls") 219) (Value.ref 28)), (DictEntry.mk (PyData.keyHash P (Str.ofString "rgb_to_hsv")) (Value.str (Str.ofString "rgb_to_hsv") 237) (Value.ref 35)), (DictEntry.mk (PyData.keyHash P (Str.ofString "CHAR_MAX")) (Value.str (Str.ofString "CHAR_MAX") 241) (Value.int (127 : Int) 240)), (DictEntry.mk (PyData.keyHash P (Str.ofString "_grouping_intervals")) (Value.str (Str.ofString "_grouping_intervals") 250) (Value.ref 42)), (DictEntry.mk (PyData.keyHash P (Str.ofString "b1_set")) (Value.str (Str.ofString "b1_set") 312) (Value.ref 50)), (DictEntry.mk (PyData.keyHash P (Str.ofString "in_table_b1")) (Value.str (Str.ofString "in_table_b1") 319) (Value.ref 60)), (DictEntry.mk (PyData.keyHash P (Str.ofString "b3_exceptions")) (Value.str (Str.ofString "b3_exceptions") 2270) (Value.ref 61)), (DictEntry.mk (PyData.keyHash P (Str.ofString "map_table_b3")) (Value.str (Str.ofString "map_table_b3") 2278) (Value.ref 106)), (DictEntry.mk (PyData.keyHash P (Str.ofString "_law_draws")) (Value.str (Str.ofString "_law_draws") 2286) (Value.ref 111)), (DictEntry.mk (PyData.keyHash P (Str.ofString "_law_sizes")) (Value.str (Str.ofString "_law_sizes") 2292) (Value.ref 116)), (DictEntry.mk (PyData.keyHash P (Str.ofString "_law_marks")) (Value.str (Str.ofString "_law_marks") 2307) (Value.ref 123)), (DictEntry.mk (PyData.keyHash P (Str.ofString "_law_levels")) (Value.str (Str.ofString "_law_levels") 2313) (Value.ref 128)), (DictEntry.mk (PyData.keyHash P (Str.ofString "_law_typed")) (Value.str (Str.ofString "_law_typed") 2325) (Value.ref 135)), (DictEntry.mk (PyData.keyHash P (Str.ofString "_law_dealt")) (Value.str (Str.ofString "_law_dealt") 2331) (Value.ref 140)), (DictEntry.mk (PyData.keyHash P (Str.ofString "_law_seen")) (Value.str (Str.ofString "_law_seen") 2349) (Value.ref 147)), (DictEntry.mk (PyData.keyHash P (Str.ofString "_law_no_worse")) (Value.str (Str.ofString "_law_no_worse") 2355) (Value.ref 152)), (DictEntry.mk (PyData.keyHash P (Str.ofString "_law_untangled")) (Value.str (Str.ofString "_law_untangled") 2361) (Value.ref 157)), (DictEntry.mk (PyData.keyHash P (Str.ofString "law")) (Value.str (Str.ofString "law") 2372) (Value.ref 164))]) 28) (List.toArray []))
noncomputable def o12v22 (P : Params) : Obj := (Obj.mk Value.none none (Data.fields (List.toArray [(Value.int (2 : Int) 0), (Value.int (0 : Int) 0), (Value.ref 20), (Value.int (7 : Int) 0), (Value.int (0 : Int) 0), (Value.ref 27), (Value.int (30 : Int) 0), (Value.int (0 : Int) 0), (Value.ref 34), (Value.int (51 : Int) 0), (Value.int (0 : Int) 0), (Value.ref 41), (Value.int (65 : Int) 0), (Value.int (0 : Int) 0), (Value.ref 59), (Value.int (68 : Int) 0), (Value.int (0 : Int) 0), (Value.ref 105), (Value.int (74 : Int) 0), (Value.int (0 : Int) 0), (Value.ref 110), (Value.int (76 : Int) 0), (Value.int (0 : Int) 0), (Value.ref 115), (Value.int (78 : Int) 0), (Value.int (0 : Int) 0), (Value.ref 122), (Value.int (89 : Int) 0), (Value.int (0 : Int) 0), (Value.ref 127), (Value.int (93 : Int) 0), (Value.int (0 : Int) 0), (Value.ref 134), (Value.int (103 : Int) 0), (Value.int (0 : Int) 0), (Value.ref 139), (Value.int (106 : Int) 0), (Value.int (0 : Int) 0), (Value.ref 146), (Value.int (118 : Int) 0), (Value.int (0 : Int) 0), (Value.ref 151), (Value.int (128 : Int) 0), (Value.int (0 : Int) 0), (Value.ref 156), (Value.int (141 : Int) 0), (Value.int (0 : Int) 0), (Value.ref 163)])) (List.toArray []))
noncomputable def o158 (P : Params) : Obj := (Obj.mk (Value.type "tuple") none (Data.seq (List.toArray []) 0) (List.toArray []))
noncomputable def o159 (P : Params) : Obj := (Obj.mk Value.none none (Data.fields (List.toArray [])) (List.toArray []))
noncomputable def o160 (P : Params) : Obj := (Obj.mk (Value.type "tuple") none (Data.seq (List.toArray [(Value.str (Str.ofString "script") 2365), (Value.str (Str.ofString "draws") 2366), (Value.str (Str.ofString "greens") 2367), (Value.str (Str.ofString "blues") 2368), (Value.str (Str.ofString "chain") 2369)]) 0) (List.toArray []))
noncomputable def o161 (P : Params) : Obj := (Obj.mk (Value.type "tuple") none (Data.seq (List.toArray []) 0) (List.toArray []))
noncomputable def o162 (P : Params) : Obj := (Obj.mk Value.none none (Data.func (FuncData.mk (Str.ofString "law") (Str.ofString "law") (fnArgs 22) (FuncBody.stmts (fnBody 22)) (fnScope 22) 0 [] Value.none Value.none Value.none Value.none none Value.none Value.none 0)) (List.toArray []))
noncomputable def o163 (P : Params) : Obj := (Obj.mk (Value.type "code") none (Data.fields (List.toArray [(Value.str (Str.ofString "law") 2362), (Value.str (Str.ofString "law") 2363), (Value.str (Str.ofString "/claim/cut.py") 2364), (Value.int (141 : Int) 0), (Value.int (1 : Int) 0), (Value.int (0 : Int) 0), (Value.int (0 : Int) 0), (Value.int (3 : Int) 0), (Value.ref 158), (Value.bool Bool.true), (Value.int (181 : Int) 0), (Value.ref 159), Value.none, (Value.ref 160), (Value.ref 161), (Value.ref 162), (Value.int (2370 : Int) 0), (Value.int (141 : Int) 0), (Value.str (Str.ofString "/claim/cut.py") 2371)])) (List.toArray []))
noncomputable def o164 (P : Params) : Obj := (Obj.mk (Value.type "function") none (Data.func (FuncData.mk (Str.ofString "law") (Str.ofString "law") (fnArgs 22) (FuncBody.stmts (fnBody 22)) (fnScope 22) 3 [] Value.none Value.none Value.none (Value.str (Str.ofString "law_tp0035_01") 2279) none (Value.ref 163) Value.none 0)) (List.toArray []))
noncomputable def TB (P : Params) : BT := (.node (boot_o_0 P) (.node (boot_o_1 P) (.node (boot_o_3 P) (.node (boot_o_7 P) .nil .nil) (.node (o11 P) .nil .nil)) (.node (boot_o_5 P) (.node (boot_o_9 P) .nil .nil) (.node (o13 P) .nil .nil))) (.node (boot_o_2 P) (.node (boot_o_4 P) (.node (boot_o_8 P) .nil .nil) (.node (o12 P) .nil .nil)) (.node (boot_o_6 P) (.node (boot_o_10 P) .nil .nil) (.node (o14 P) .nil .nil))))
noncomputable def SB (w : World) (os : OsState) : SharedT := ⟨TB w.params, nat_lit 15, {}, #[], {}, nat_lit 187, os⟩
noncomputable def qB : Pos := ⟨0, 0, 0, 0⟩
noncomputable def T0 (P : Params) : BT := (.node (boot_o_0 P) (.node (boot_o_1 P) (.node (o3v0 P) (.node (boot_o_7 P) .nil .nil) (.node (o11 P) .nil .nil)) (.node (boot_o_5 P) (.node (boot_o_9 P) .nil .nil) (.node (o13 P) .nil .nil))) (.node (boot_o_2 P) (.node (boot_o_4 P) (.node (boot_o_8 P) .nil .nil) (.node (o12 P) .nil .nil)) (.node (boot_o_6 P) (.node (boot_o_10 P) .nil .nil) (.node (o14 P) .nil .nil))))
noncomputable def S0 (w : World) (os : OsState) : SharedT := ⟨T0 w.params, nat_lit 15, {}, #[], {}, nat_lit 189, os⟩
noncomputable def q0 : Pos := ⟨1, 0, 1, 8⟩
noncomputable def T1 (P : Params) : BT := (.node (boot_o_0 P) (.node (boot_o_1 P) (.node (o3v1 P) (.node (boot_o_7 P) (.node (o15 P) .nil .nil) .nil) (.node (o11 P) (.node (o19 P) .nil .nil) .nil)) (.node (boot_o_5 P) (.node (boot_o_9 P) (.node (o17 P) .nil .nil) .nil) (.node (o13 P) (.node (o21 P) .nil .nil) .nil))) (.node (boot_o_2 P) (.node (boot_o_4 P) (.node (boot_o_8 P) (.node (o16 P) .nil .nil) .nil) (.node (o12v1 P) (.node (o20 P) .nil .nil) .nil)) (.node (boot_o_6 P) (.node (boot_o_10 P) (.node (o18 P) .nil .nil) .nil) (.node (o14 P) .nil .nil))))
noncomputable def S1 (w : World) (os : OsState) : SharedT := ⟨T1 w.params, nat_lit 22, {}, #[], {}, nat_lit 201, os⟩
noncomputable def q1 : Pos := ⟨2, 0, 6, 20⟩
noncomputable def T2 (P : Params) : BT := (.node (boot_o_0 P) (.node (boot_o_1 P) (.node (o3v2 P) (.node (boot_o_7 P) (.node (o15 P) .nil .nil) (.node (o23 P) .nil .nil)) (.node (o11 P) (.node (o19 P) .nil .nil) (.node (o27 P) .nil .nil))) (.node (boot_o_5 P) (.node (boot_o_9 P) (.node (o17 P) .nil .nil) (.node (o25 P) .nil .nil)) (.node (o13 P) (.node (o21 P) .nil .nil) .nil))) (.node (boot_o_2 P) (.node (boot_o_4 P) (.node (boot_o_8 P) (.node (o16 P) .nil .nil) (.node (o24 P) .nil .nil)) (.node (o12v2 P) (.node (o20 P) .nil .nil) (.node (o28 P) .nil .nil))) (.node (boot_o_6 P) (.node (boot_o_10 P) (.node (o18 P) .nil .nil) (.node (o26 P) .nil .nil)) (.node (o14 P) (.node (o22 P) .nil .nil) .nil))))
noncomputable def S2 (w : World) (os : OsState) : SharedT := ⟨T2 w.params, nat_lit 29, {}, #[], {}, nat_lit 220, os⟩
noncomputable def q2 : Pos := ⟨7, 0, 29, 20⟩
noncomputable def T3 (P : Params) : BT := (.node (boot_o_0 P) (.node (boot_o_1 P) (.node (o3v3 P) (.node (boot_o_7 P) (.node (o15 P) (.node (o31 P) .nil .nil) .nil) (.node (o23 P) .nil .nil)) (.node (o11 P) (.node (o19 P) (.node (o35 P) .nil .nil) .nil) (.node (o27 P) .nil .nil))) (.node (boot_o_5 P) (.node (boot_o_9 P) (.node (o17 P) (.node (o33 P) .nil .nil) .nil) (.node (o25 P) .nil .nil)) (.node (o13 P) (.node (o21 P) .nil .nil) (.node (o29 P) .nil .nil)))) (.node (boot_o_2 P) (.node (boot_o_4 P) (.node (boot_o_8 P) (.node (o16 P) (.node (o32 P) .nil .nil) .nil) (.node (o24 P) .nil .nil)) (.node (o12v3 P) (.node (o20 P) .nil .nil) (.node (o28 P) .nil .nil))) (.node (boot_o_6 P) (.node (boot_o_10 P) (.node (o18 P) (.node (o34 P) .nil .nil) .nil) (.node (o26 P) .nil .nil)) (.node (o14 P) (.node (o22 P) .nil .nil) (.node (o30 P) .nil .nil)))))
noncomputable def S3 (w : World) (os : OsState) : SharedT := ⟨T3 w.params, nat_lit 36, {}, #[], {}, nat_lit 238, os⟩
noncomputable def q3 : Pos := ⟨30, 0, 48, 20⟩
noncomputable def T4 (P : Params) : BT := (.node (boot_o_0 P) (.node (boot_o_1 P) (.node (o3v4 P) (.node (boot_o_7 P) (.node (o15 P) (.node (o31 P) .nil .nil) .nil) (.node (o23 P) .nil .nil)) (.node (o11 P) (.node (o19 P) (.node (o35 P) .nil .nil) .nil) (.node (o27 P) .nil .nil))) (.node (boot_o_5 P) (.node (boot_o_9 P) (.node (o17 P) (.node (o33 P) .nil .nil) .nil) (.node (o25 P) .nil .nil)) (.node (o13 P) (.node (o21 P) .nil .nil) (.node (o29 P) .nil .nil)))) (.node (boot_o_2 P) (.node (boot_o_4 P) (.node (boot_o_8 P) (.node (o16 P) (.node (o32 P) .nil .nil) .nil) (.node (o24 P) .nil .nil)) (.node (o12v3 P) (.node (o20 P) .nil .nil) (.node (o28 P) .nil .nil))) (.node (boot_o_6 P) (.node (boot_o_10 P) (.node (o18 P) (.node (o34 P) .nil .nil) .nil) (.node (o26 P) .nil .nil)) (.node (o14 P) (.node (o22 P) .nil .nil) (.node (o30 P) .nil .nil)))))
noncomputable def S4 (w : World) (os : OsState) : SharedT := ⟨T4 w.params, nat_lit 36, {}, #[], {}, nat_lit 240, os⟩
noncomputable def q4 : Pos := ⟨49, 0, 49, 8⟩
noncomputable def T5 (P : Params) : BT := (.node (boot_o_0 P) (.node (boot_o_1 P) (.node (o3v5 P) (.node (boot_o_7 P) (.node (o15 P) (.node (o31 P) .nil .nil) .nil) (.node (o23 P) .nil .nil)) (.node (o11 P) (.node (o19 P) (.node (o35 P) .nil .nil) .nil) (.node (o27 P) .nil .nil))) (.node (boot_o_5 P) (.node (boot_o_9 P) (.node (o17 P) (.node (o33 P) .nil .nil) .nil) (.node (o25 P) .nil .nil)) (.node (o13 P) (.node (o21 P) .nil .nil) (.node (o29 P) .nil .nil)))) (.node (boot_o_2 P) (.node (boot_o_4 P) (.node (boot_o_8 P) (.node (o16 P) (.node (o32 P) .nil .nil) .nil) (.node (o24 P) .nil .nil)) (.node (o12v3 P) (.node (o20 P) .nil .nil) (.node (o28 P) .nil .nil))) (.node (boot_o_6 P) (.node (boot_o_10 P) (.node (o18 P) (.node (o34 P) .nil .nil) .nil) (.node (o26 P) .nil .nil)) (.node (o14 P) (.node (o22 P) .nil .nil) (.node (o30 P) .nil .nil)))))
noncomputable def S5 (w : World) (os : OsState) : SharedT := ⟨T5 w.params, nat_lit 36, {}, #[], {}, nat_lit 242, os⟩
noncomputable def q5 : Pos := ⟨50, 0, 50, 8⟩
noncomputable def T6 (P : Params) : BT := (.node (boot_o_0 P) (.node (boot_o_1 P) (.node (o3v6 P) (.node (boot_o_7 P) (.node (o15 P) (.node (o31 P) .nil .nil) .nil) (.node (o23 P) (.node (o39 P) .nil .nil) .nil)) (.node (o11 P) (.node (o19 P) (.node (o35 P) .nil .nil) .nil) (.node (o27 P) .nil .nil))) (.node (boot_o_5 P) (.node (boot_o_9 P) (.node (o17 P) (.node (o33 P) .nil .nil) .nil) (.node (o25 P) (.node (o41 P) .nil .nil) .nil)) (.node (o13 P) (.node (o21 P) (.node (o37 P) .nil .nil) .nil) (.node (o29 P) .nil .nil)))) (.node (boot_o_2 P) (.node (boot_o_4 P) (.node (boot_o_8 P) (.node (o16 P) (.node (o32 P) .nil .nil) .nil) (.node (o24 P) (.node (o40 P) .nil .nil) .nil)) (.node (o12v6 P) (.node (o20 P) (.node (o36 P) .nil .nil) .nil) (.node (o28 P) .nil .nil))) (.node (boot_o_6 P) (.node (boot_o_10 P) (.node (o18 P) (.node (o34 P) .nil .nil) .nil) (.node (o26 P) (.node (o42 P) .nil .nil) .nil)) (.node (o14 P) (.node (o22 P) (.node (o38 P) .nil .nil) .nil) (.node (o30 P) .nil .nil)))))
noncomputable def S6 (w : World) (os : OsState) : SharedT := ⟨T6 w.params, nat_lit 43, {}, #[], {}, nat_lit 251, os⟩
noncomputable def q6 : Pos := ⟨51, 0, 62, 32⟩
noncomputable def T7 (P : Params) : BT := (.node (boot_o_0 P) (.node (boot_o_1 P) (.node (o3v7 P) (.node (boot_o_7 P) (.node (o15 P) (.node (o31 P) .nil .nil) .nil) (.node (o23 P) (.node (o39 P) .nil .nil) .nil)) (.node (o11 P) (.node (o19 P) (.node (o35 P) .nil .nil) .nil) (.node (o27 P) .nil .nil))) (.node (boot_o_5 P) (.node (boot_o_9 P) (.node (o17 P) (.node (o33 P) .nil .nil) .nil) (.node (o25 P) (.node (o41 P) .nil .nil) .nil)) (.node (o13 P) (.node (o21 P) (.node (o37 P) .nil .nil) .nil) (.node (o29 P) .nil .nil)))) (.node (boot_o_2 P) (.node (boot_o_4 P) (.node (boot_o_8 P) (.node (o16 P) (.node (o32 P) .nil .nil) .nil) (.node (o24 P) (.node (o40 P) .nil .nil) .nil)) (.node (o12v6 P) (.node (o20 P) (.node (o36 P) .nil .nil) .nil) (.node (o28 P) .nil .nil))) (.node (boot_o_6 P) (.node (boot_o_10 P) (.node (o18 P) (.node (o34 P) .nil .nil) .nil) (.node (o26 P) (.node (o42 P) .nil .nil) .nil)) (.node (o14 P) (.node (o22 P) (.node (o38 P) .nil .nil) .nil) (.node (o30 P) .nil .nil)))))
noncomputable def S7 (w : World) (os : OsState) : SharedT := ⟨T7 w.params, nat_lit 43, {}, #[], {}, nat_lit 253, os⟩
noncomputable def q7 : Pos := ⟨63, 0, 63, 8⟩
noncomputable def T8 (P : Params) : BT := (.node (boot_o_0 P) (.node (boot_o_1 P) (.node (o3v8 P) (.node (boot_o_7 P) (.node (o15 P) (.node (o31 P) .nil .nil) (.node (o47 P) .nil .nil)) (.node (o23 P) (.node (o39 P) .nil .nil) .nil)) (.node (o11 P) (.node (o19 P) (.node (o35 P) .nil .nil) (.node (o51 P) .nil .nil)) (.node (o27 P) (.node (o43 P) .nil .nil) .nil))) (.node (boot_o_5 P) (.node (boot_o_9 P) (.node (o17 P) (.node (o33 P) .nil .nil) (.node (o49 P) .nil .nil)) (.node (o25 P) (.node (o41 P) .nil .nil) .nil)) (.node (o13 P) (.node (o21 P) (.node (o37 P) .nil .nil) (.node (o53 P) .nil .nil)) (.node (o29 P) (.node (o45 P) .nil .nil) .nil)))) (.node (boot_o_2 P) (.node (boot_o_4 P) (.node (boot_o_8 P) (.node (o16 P) (.node (o32 P) .nil .nil) (.node (o48 P) .nil .nil)) (.node (o24 P) (.node (o40 P) .nil .nil) .nil)) (.node (o12v6 P) (.node (o20 P) (.node (o36 P) .nil .nil) (.node (o52 P) .nil .nil)) (.node (o28 P) (.node (o44 P) .nil .nil) .nil))) (.node (boot_o_6 P) (.node (boot_o_10 P) (.node (o18 P) (.node (o34 P) .nil .nil) (.node (o50 P) .nil .nil)) (.node (o26 P) (.node (o42 P) .nil .nil) .nil)) (.node (o14 P) (.node (o22 P) (.node (o38 P) .nil .nil) .nil) (.node (o30 P) (.node (o46 P) .nil .nil) .nil)))))
noncomputable def S8 (w : World) (os : OsState) : SharedT := ⟨T8 w.params, nat_lit 54, {}, #[], {}, nat_lit 313, os⟩
noncomputable def q8 : Pos := ⟨64, 0, 64, 6⟩
noncomputable def T9 (P : Params) : BT := (.node (boot_o_0 P) (.node (boot_o_1 P) (.node (o3v9 P) (.node (boot_o_7 P) (.node (o15 P) (.node (o31 P) .nil .nil) (.node (o47 P) .nil .nil)) (.node (o23 P) (.node (o39 P) .nil .nil) (.node (o55 P) .nil .nil))) (.node (o11 P) (.node (o19 P) (.node (o35 P) .nil .nil) (.node (o51 P) .nil .nil)) (.node (o27 P) (.node (o43 P) .nil .nil) (.node (o59 P) .nil .nil)))) (.node (boot_o_5 P) (.node (boot_o_9 P) (.node (o17 P) (.node (o33 P) .nil .nil) (.node (o49 P) .nil .nil)) (.node (o25 P) (.node (o41 P) .nil .nil) (.node (o57 P) .nil .nil))) (.node (o13 P) (.node (o21 P) (.node (o37 P) .nil .nil) (.node (o53 P) .nil .nil)) (.node (o29 P) (.node (o45 P) .nil .nil) .nil)))) (.node (boot_o_2 P) (.node (boot_o_4 P) (.node (boot_o_8 P) (.node (o16 P) (.node (o32 P) .nil .nil) (.node (o48 P) .nil .nil)) (.node (o24 P) (.node (o40 P) .nil .nil) (.node (o56 P) .nil .nil))) (.node (o12v9 P) (.node (o20 P) (.node (o36 P) .nil .nil) (.node (o52 P) .nil .nil)) (.node (o28 P) (.node (o44 P) .nil .nil) (.node (o60 P) .nil .nil)))) (.node (boot_o_6 P) (.node (boot_o_10 P) (.node (o18 P) (.node (o34 P) .nil .nil) (.node (o50 P) .nil .nil)) (.node (o26 P) (.node (o42 P) .nil .nil) (.node (o58 P) .nil .nil))) (.node (o14 P) (.node (o22 P) (.node (o38 P) .nil .nil) (.node (o54 P) .nil .nil)) (.node (o30 P) (.node (o46 P) .nil .nil) .nil)))))
noncomputable def S9 (w : World) (os : OsState) : SharedT := ⟨T9 w.params, nat_lit 61, {}, #[], {}, nat_lit 320, os⟩
noncomputable def q9 : Pos := ⟨65, 0, 66, 30⟩
noncomputable def T10 (P : Params) : BT := (.node (boot_o_0 P) (.node (boot_o_1 P) (.node (o3v10 P) (.node (boot_o_7 P) (.node (o15 P) (.node (o31 P) (.node (o63 P) .nil .nil) (.node (o95 P) .nil .nil)) (.node (o47 P) (.node (o79 P) .nil .nil) .nil)) (.node (o23 P) (.node (o39 P) (.node (o71 P) .nil .nil) .nil) (.node (o55 P) (.node (o87 P) .nil .nil) .nil))) (.node (o11 P) (.node (o19 P) (.node (o35 P) (.node (o67 P) .nil .nil) (.node (o99 P) .nil .nil)) (.node (o51 P) (.node (o83 P) .nil .nil) .nil)) (.node (o27 P) (.node (o43 P) (.node (o75 P) .nil .nil) .nil) (.node (o59 P) (.node (o91 P) .nil .nil) .nil)))) (.node (boot_o_5 P) (.node (boot_o_9 P) (.node (o17 P) (.node (o33 P) (.node (o65 P) .nil .nil) (.node (o97 P) .nil .nil)) (.node (o49 P) (.node (o81 P) .nil .nil) .nil)) (.node (o25 P) (.node (o41 P) (.node (o73 P) .nil .nil) .nil) (.node (o57 P) (.node (o89 P) .nil .nil) .nil))) (.node (o13 P) (.node (o21 P) (.node (o37 P) (.node (o69 P) .nil .nil) .nil) (.node (o53 P) (.node (o85 P) .nil .nil) .nil)) (.node (o29 P) (.node (o45 P) (.node (o77 P) .nil .nil) .nil) (.node (o61 P) (.node (o93 P) .nil .nil) .nil))))) (.node (boot_o_2 P) (.node (boot_o_4 P) (.node (boot_o_8 P) (.node (o16 P) (.node (o32 P) (.node (o64 P) .nil .nil) (.node (o96 P) .nil .nil)) (.node (o48 P) (.node (o80 P) .nil .nil) .nil)) (.node (o24 P) (.node (o40 P) (.node (o72 P) .nil .nil) .nil) (.node (o56 P) (.node (o88 P) .nil .nil) .nil))) (.node (o12v9 P) (.node (o20 P) (.node (o36 P) (.node (o68 P) .nil .nil) .nil) (.node (o52 P) (.node (o84 P) .nil .nil) .nil)) (.node (o28 P) (.node (o44 P) (.node (o76 P) .nil .nil) .nil) (.node (o60 P) (.node (o92 P) .nil .nil) .nil)))) (.node (boot_o_6 P) (.node (boot_o_10 P) (.node (o18 P) (.node (o34 P) (.node (o66 P) .nil .nil) (.node (o98 P) .nil .nil)) (.node (o50 P) (.node (o82 P) .nil .nil) .nil)) (.node (o26 P) (.node (o42 P) (.node (o74 P) .nil .nil) .nil) (.node (o58 P) (.node (o90 P) .nil .nil) .nil))) (.node (o14 P) (.node (o22 P) (.node (o38 P) (.node (o70 P) .nil .nil) .nil) (.node (o54 P) (.node (o86 P) .nil .nil) .nil)) (.node (o30 P) (.node (o46 P) (.node (o78 P) .nil .nil) .nil) (.node (o62 P) (.node (o94 P) .nil .nil) .nil))))))
noncomputable def S10 (w : World) (os : OsState) : SharedT := ⟨T10 w.params, nat_lit 100, {}, #[], {}, nat_lit 2271, os⟩
noncomputable def q10 : Pos := ⟨67, 0, 67, 13⟩
noncomputable def T11 (P : Params) : BT := (.node (boot_o_0 P) (.node (boot_o_1 P) (.node (o3v11 P) (.node (boot_o_7 P) (.node (o15 P) (.node (o31 P) (.node (o63 P) .nil .nil) (.node (o95 P) .nil .nil)) (.node (o47 P) (.node (o79 P) .nil .nil) .nil)) (.node (o23 P) (.node (o39 P) (.node (o71 P) .nil .nil) (.node (o103 P) .nil .nil)) (.node (o55 P) (.node (o87 P) .nil .nil) .nil))) (.node (o11 P) (.node (o19 P) (.node (o35 P) (.node (o67 P) .nil .nil) (.node (o99 P) .nil .nil)) (.node (o51 P) (.node (o83 P) .nil .nil) .nil)) (.node (o27 P) (.node (o43 P) (.node (o75 P) .nil .nil) .nil) (.node (o59 P) (.node (o91 P) .nil .nil) .nil)))) (.node (boot_o_5 P) (.node (boot_o_9 P) (.node (o17 P) (.node (o33 P) (.node (o65 P) .nil .nil) (.node (o97 P) .nil .nil)) (.node (o49 P) (.node (o81 P) .nil .nil) .nil)) (.node (o25 P) (.node (o41 P) (.node (o73 P) .nil .nil) (.node (o105 P) .nil .nil)) (.node (o57 P) (.node (o89 P) .nil .nil) .nil))) (.node (o13 P) (.node (o21 P) (.node (o37 P) (.node (o69 P) .nil .nil) (.node (o101 P) .nil .nil)) (.node (o53 P) (.node (o85 P) .nil .nil) .nil)) (.node (o29 P) (.node (o45 P) (.node (o77 P) .nil .nil) .nil) (.node (o61 P) (.node (o93 P) .nil .nil) .nil))))) (.node (boot_o_2 P) (.node (boot_o_4 P) (.node (boot_o_8 P) (.node (o16 P) (.node (o32 P) (.node (o64 P) .nil .nil) (.node (o96 P) .nil .nil)) (.node (o48 P) (.node (o80 P) .nil .nil) .nil)) (.node (o24 P) (.node (o40 P) (.node (o72 P) .nil .nil) (.node (o104 P) .nil .nil)) (.node (o56 P) (.node (o88 P) .nil .nil) .nil))) (.node (o12v11 P) (.node (o20 P) (.node (o36 P) (.node (o68 P) .nil .nil) (.node (o100 P) .nil .nil)) (.node (o52 P) (.node (o84 P) .nil .nil) .nil)) (.node (o28 P) (.node (o44 P) (.node (o76 P) .nil .nil) .nil) (.node (o60 P) (.node (o92 P) .nil .nil) .nil)))) (.node (boot_o_6 P) (.node (boot_o_10 P) (.node (o18 P) (.node (o34 P) (.node (o66 P) .nil .nil) (.node (o98 P) .nil .nil)) (.node (o50 P) (.node (o82 P) .nil .nil) .nil)) (.node (o26 P) (.node (o42 P) (.node (o74 P) .nil .nil) (.node (o106 P) .nil .nil)) (.node (o58 P) (.node (o90 P) .nil .nil) .nil))) (.node (o14 P) (.node (o22 P) (.node (o38 P) (.node (o70 P) .nil .nil) (.node (o102 P) .nil .nil)) (.node (o54 P) (.node (o86 P) .nil .nil) .nil)) (.node (o30 P) (.node (o46 P) (.node (o78 P) .nil .nil) .nil) (.node (o62 P) (.node (o94 P) .nil .nil) .nil))))))
noncomputable def S11 (w : World) (os : OsState) : SharedT := ⟨T11 w.params, nat_lit 107, {}, #[], {}, nat_lit 2279, os⟩
noncomputable def q11 : Pos := ⟨68, 0, 72, 23⟩
noncomputable def T12 (P : Params) : BT := (.node (boot_o_0 P) (.node (boot_o_1 P) (.node (o3v12 P) (.node (boot_o_7 P) (.node (o15 P) (.node (o31 P) (.node (o63 P) .nil .nil) (.node (o95 P) .nil .nil)) (.node (o47 P) (.node (o79 P) .nil .nil) .nil)) (.node (o23 P) (.node (o39 P) (.node (o71 P) .nil .nil) (.node (o103 P) .nil .nil)) (.node (o55 P) (.node (o87 P) .nil .nil) .nil))) (.node (o11 P) (.node (o19 P) (.node (o35 P) (.node (o67 P) .nil .nil) (.node (o99 P) .nil .nil)) (.node (o51 P) (.node (o83 P) .nil .nil) .nil)) (.node (o27 P) (.node (o43 P) (.node (o75 P) .nil .nil) .nil) (.node (o59 P) (.node (o91 P) .nil .nil) .nil)))) (.node (boot_o_5 P) (.node (boot_o_9 P) (.node (o17 P) (.node (o33 P) (.node (o65 P) .nil .nil) (.node (o97 P) .nil .nil)) (.node (o49 P) (.node (o81 P) .nil .nil) .nil)) (.node (o25 P) (.node (o41 P) (.node (o73 P) .nil .nil) (.node (o105 P) .nil .nil)) (.node (o57 P) (.node (o89 P) .nil .nil) .nil))) (.node (o13 P) (.node (o21 P) (.node (o37 P) (.node (o69 P) .nil .nil) (.node (o101 P) .nil .nil)) (.node (o53 P) (.node (o85 P) .nil .nil) .nil)) (.node (o29 P) (.node (o45 P) (.node (o77 P) .nil .nil) .nil) (.node (o61 P) (.node (o93 P) .nil .nil) .nil))))) (.node (boot_o_2 P) (.node (boot_o_4 P) (.node (boot_o_8 P) (.node (o16 P) (.node (o32 P) (.node (o64 P) .nil .nil) (.node (o96 P) .nil .nil)) (.node (o48 P) (.node (o80 P) .nil .nil) .nil)) (.node (o24 P) (.node (o40 P) (.node (o72 P) .nil .nil) (.node (o104 P) .nil .nil)) (.node (o56 P) (.node (o88 P) .nil .nil) .nil))) (.node (o12v11 P) (.node (o20 P) (.node (o36 P) (.node (o68 P) .nil .nil) (.node (o100 P) .nil .nil)) (.node (o52 P) (.node (o84 P) .nil .nil) .nil)) (.node (o28 P) (.node (o44 P) (.node (o76 P) .nil .nil) .nil) (.node (o60 P) (.node (o92 P) .nil .nil) .nil)))) (.node (boot_o_6 P) (.node (boot_o_10 P) (.node (o18 P) (.node (o34 P) (.node (o66 P) .nil .nil) (.node (o98 P) .nil .nil)) (.node (o50 P) (.node (o82 P) .nil .nil) .nil)) (.node (o26 P) (.node (o42 P) (.node (o74 P) .nil .nil) (.node (o106 P) .nil .nil)) (.node (o58 P) (.node (o90 P) .nil .nil) .nil))) (.node (o14 P) (.node (o22 P) (.node (o38 P) (.node (o70 P) .nil .nil) (.node (o102 P) .nil .nil)) (.node (o54 P) (.node (o86 P) .nil .nil) .nil)) (.node (o30 P) (.node (o46 P) (.node (o78 P) .nil .nil) .nil) (.node (o62 P) (.node (o94 P) .nil .nil) .nil))))))
noncomputable def S12 (w : World) (os : OsState) : SharedT := ⟨T12 w.params, nat_lit 107, {}, #[], {}, nat_lit 2281, os⟩
noncomputable def q12 : Pos := ⟨73, 0, 73, 8⟩
noncomputable def T13 (P : Params) : BT := (.node (boot_o_0 P) (.node (boot_o_1 P) (.node (o3v13 P) (.node (boot_o_7 P) (.node (o15 P) (.node (o31 P) (.node (o63 P) .nil .nil) (.node (o95 P) .nil .nil)) (.node (o47 P) (.node (o79 P) .nil .nil) (.node (o111 P) .nil .nil))) (.node (o23 P) (.node (o39 P) (.node (o71 P) .nil .nil) (.node (o103 P) .nil .nil)) (.node (o55 P) (.node (o87 P) .nil .nil) .nil))) (.node (o11 P) (.node (o19 P) (.node (o35 P) (.node (o67 P) .nil .nil) (.node (o99 P) .nil .nil)) (.node (o51 P) (.node (o83 P) .nil .nil) .nil)) (.node (o27 P) (.node (o43 P) (.node (o75 P) .nil .nil) (.node (o107 P) .nil .nil)) (.node (o59 P) (.node (o91 P) .nil .nil) .nil)))) (.node (boot_o_5 P) (.node (boot_o_9 P) (.node (o17 P) (.node (o33 P) (.node (o65 P) .nil .nil) (.node (o97 P) .nil .nil)) (.node (o49 P) (.node (o81 P) .nil .nil) .nil)) (.node (o25 P) (.node (o41 P) (.node (o73 P) .nil .nil) (.node (o105 P) .nil .nil)) (.node (o57 P) (.node (o89 P) .nil .nil) .nil))) (.node (o13 P) (.node (o21 P) (.node (o37 P) (.node (o69 P) .nil .nil) (.node (o101 P) .nil .nil)) (.node (o53 P) (.node (o85 P) .nil .nil) .nil)) (.node (o29 P) (.node (o45 P) (.node (o77 P) .nil .nil) (.node (o109 P) .nil .nil)) (.node (o61 P) (.node (o93 P) .nil .nil) .nil))))) (.node (boot_o_2 P) (.node (boot_o_4 P) (.node (boot_o_8 P) (.node (o16 P) (.node (o32 P) (.node (o64 P) .nil .nil) (.node (o96 P) .nil .nil)) (.node (o48 P) (.node (o80 P) .nil .nil) .nil)) (.node (o24 P) (.node (o40 P) (.node (o72 P) .nil .nil) (.node (o104 P) .nil .nil)) (.node (o56 P) (.node (o88 P) .nil .nil) .nil))) (.node (o12v13 P) (.node (o20 P) (.node (o36 P) (.node (o68 P) .nil .nil) (.node (o100 P) .nil .nil)) (.node (o52 P) (.node (o84 P) .nil .nil) .nil)) (.node (o28 P) (.node (o44 P) (.node (o76 P) .nil .nil) (.node (o108 P) .nil .nil)) (.node (o60 P) (.node (o92 P) .nil .nil) .nil)))) (.node (boot_o_6 P) (.node (boot_o_10 P) (.node (o18 P) (.node (o34 P) (.node (o66 P) .nil .nil) (.node (o98 P) .nil .nil)) (.node (o50 P) (.node (o82 P) .nil .nil) .nil)) (.node (o26 P) (.node (o42 P) (.node (o74 P) .nil .nil) (.node (o106 P) .nil .nil)) (.node (o58 P) (.node (o90 P) .nil .nil) .nil))) (.node (o14 P) (.node (o22 P) (.node (o38 P) (.node (o70 P) .nil .nil) (.node (o102 P) .nil .nil)) (.node (o54 P) (.node (o86 P) .nil .nil) .nil)) (.node (o30 P) (.node (o46 P) (.node (o78 P) .nil .nil) (.node (o110 P) .nil .nil)) (.node (o62 P) (.node (o94 P) .nil .nil) .nil))))))
noncomputable def S13 (w : World) (os : OsState) : SharedT := ⟨T13 w.params, nat_lit 112, {}, #[], {}, nat_lit 2287, os⟩
noncomputable def q13 : Pos := ⟨74, 0, 75, 104⟩
noncomputable def T14 (P : Params) : BT := (.node (boot_o_0 P) (.node (boot_o_1 P) (.node (o3v14 P) (.node (boot_o_7 P) (.node (o15 P) (.node (o31 P) (.node (o63 P) .nil .nil) (.node (o95 P) .nil .nil)) (.node (o47 P) (.node (o79 P) .nil .nil) (.node (o111 P) .nil .nil))) (.node (o23 P) (.node (o39 P) (.node (o71 P) .nil .nil) (.node (o103 P) .nil .nil)) (.node (o55 P) (.node (o87 P) .nil .nil) .nil))) (.node (o11 P) (.node (o19 P) (.node (o35 P) (.node (o67 P) .nil .nil) (.node (o99 P) .nil .nil)) (.node (o51 P) (.node (o83 P) .nil .nil) (.node (o115 P) .nil .nil))) (.node (o27 P) (.node (o43 P) (.node (o75 P) .nil .nil) (.node (o107 P) .nil .nil)) (.node (o59 P) (.node (o91 P) .nil .nil) .nil)))) (.node (boot_o_5 P) (.node (boot_o_9 P) (.node (o17 P) (.node (o33 P) (.node (o65 P) .nil .nil) (.node (o97 P) .nil .nil)) (.node (o49 P) (.node (o81 P) .nil .nil) (.node (o113 P) .nil .nil))) (.node (o25 P) (.node (o41 P) (.node (o73 P) .nil .nil) (.node (o105 P) .nil .nil)) (.node (o57 P) (.node (o89 P) .nil .nil) .nil))) (.node (o13 P) (.node (o21 P) (.node (o37 P) (.node (o69 P) .nil .nil) (.node (o101 P) .nil .nil)) (.node (o53 P) (.node (o85 P) .nil .nil) .nil)) (.node (o29 P) (.node (o45 P) (.node (o77 P) .nil .nil) (.node (o109 P) .nil .nil)) (.node (o61 P) (.node (o93 P) .nil .nil) .nil))))) (.node (boot_o_2 P) (.node (boot_o_4 P) (.node (boot_o_8 P) (.node (o16 P) (.node (o32 P) (.node (o64 P) .nil .nil) (.node (o96 P) .nil .nil)) (.node (o48 P) (.node (o80 P) .nil .nil) (.node (o112 P) .nil .nil))) (.node (o24 P) (.node (o40 P) (.node (o72 P) .nil .nil) (.node (o104 P) .nil .nil)) (.node (o56 P) (.node (o88 P) .nil .nil) .nil))) (.node (o12v14 P) (.node (o20 P) (.node (o36 P) (.node (o68 P) .nil .nil) (.node (o100 P) .nil .nil)) (.node (o52 P) (.node (o84 P) .nil .nil) (.node (o116 P) .nil .nil))) (.node (o28 P) (.node (o44 P) (.node (o76 P) .nil .nil) (.node (o108 P) .nil .nil)) (.node (o60 P) (.node (o92 P) .nil .nil) .nil)))) (.node (boot_o_6 P) (.node (boot_o_10 P) (.node (o18 P) (.node (o34 P) (.node (o66 P) .nil .nil) (.node (o98 P) .nil .nil)) (.node (o50 P) (.node (o82 P) .nil .nil) (.node (o114 P) .nil .nil))) (.node (o26 P) (.node (o42 P) (.node (o74 P) .nil .nil) (.node (o106 P) .nil .nil)) (.node (o58 P) (.node (o90 P) .nil .nil) .nil))) (.node (o14 P) (.node (o22 P) (.node (o38 P) (.node (o70 P) .nil .nil) (.node (o102 P) .nil .nil)) (.node (o54 P) (.node (o86 P) .nil .nil) .nil)) (.node (o30 P) (.node (o46 P) (.node (o78 P) .nil .nil) (.node (o110 P) .nil .nil)) (.node (o62 P) (.node (o94 P) .nil .nil) .nil))))))
noncomputable def S14 (w : World) (os : OsState) : SharedT := ⟨T14 w.params, nat_lit 117, {}, #[], {}, nat_lit 2293, os⟩
noncomputable def q14 : Pos := ⟨76, 0, 77, 65⟩
noncomputable def T15 (P : Params) : BT := (.node (boot_o_0 P) (.node (boot_o_1 P) (.node (o3v15 P) (.node (boot_o_7 P) (.node (o15 P) (.node (o31 P) (.node (o63 P) .nil .nil) (.node (o95 P) .nil .nil)) (.node (o47 P) (.node (o79 P) .nil .nil) (.node (o111 P) .nil .nil))) (.node (o23 P) (.node (o39 P) (.node (o71 P) .nil .nil) (.node (o103 P) .nil .nil)) (.node (o55 P) (.node (o87 P) .nil .nil) (.node (o119 P) .nil .nil)))) (.node (o11 P) (.node (o19 P) (.node (o35 P) (.node (o67 P) .nil .nil) (.node (o99 P) .nil .nil)) (.node (o51 P) (.node (o83 P) .nil .nil) (.node (o115 P) .nil .nil))) (.node (o27 P) (.node (o43 P) (.node (o75 P) .nil .nil) (.node (o107 P) .nil .nil)) (.node (o59 P) (.node (o91 P) .nil .nil) (.node (o123 P) .nil .nil))))) (.node (boot_o_5 P) (.node (boot_o_9 P) (.node (o17 P) (.node (o33 P) (.node (o65 P) .nil .nil) (.node (o97 P) .nil .nil)) (.node (o49 P) (.node (o81 P) .nil .nil) (.node (o113 P) .nil .nil))) (.node (o25 P) (.node (o41 P) (.node (o73 P) .nil .nil) (.node (o105 P) .nil .nil)) (.node (o57 P) (.node (o89 P) .nil .nil) (.node (o121 P) .nil .nil)))) (.node (o13 P) (.node (o21 P) (.node (o37 P) (.node (o69 P) .nil .nil) (.node (o101 P) .nil .nil)) (.node (o53 P) (.node (o85 P) .nil .nil) (.node (o117 P) .nil .nil))) (.node (o29 P) (.node (o45 P) (.node (o77 P) .nil .nil) (.node (o109 P) .nil .nil)) (.node (o61 P) (.node (o93 P) .nil .nil) .nil))))) (.node (boot_o_2 P) (.node (boot_o_4 P) (.node (boot_o_8 P) (.node (o16 P) (.node (o32 P) (.node (o64 P) .nil .nil) (.node (o96 P) .nil .nil)) (.node (o48 P) (.node (o80 P) .nil .nil) (.node (o112 P) .nil .nil))) (.node (o24 P) (.node (o40 P) (.node (o72 P) .nil .nil) (.node (o104 P) .nil .nil)) (.node (o56 P) (.node (o88 P) .nil .nil) (.node (o120 P) .nil .nil)))) (.node (o12v15 P) (.node (o20 P) (.node (o36 P) (.node (o68 P) .nil .nil) (.node (o100 P) .nil .nil)) (.node (o52 P) (.node (o84 P) .nil .nil) (.node (o116 P) .nil .nil))) (.node (o28 P) (.node (o44 P) (.node (o76 P) .nil .nil) (.node (o108 P) .nil .nil)) (.node (o60 P) (.node (o92 P) .nil .nil) .nil)))) (.node (boot_o_6 P) (.node (boot_o_10 P) (.node (o18 P) (.node (o34 P) (.node (o66 P) .nil .nil) (.node (o98 P) .nil .nil)) (.node (o50 P) (.node (o82 P) .nil .nil) (.node (o114 P) .nil .nil))) (.node (o26 P) (.node (o42 P) (.node (o74 P) .nil .nil) (.node (o106 P) .nil .nil)) (.node (o58 P) (.node (o90 P) .nil .nil) (.node (o122 P) .nil .nil)))) (.node (o14 P) (.node (o22 P) (.node (o38 P) (.node (o70 P) .nil .nil) (.node (o102 P) .nil .nil)) (.node (o54 P) (.node (o86 P) .nil .nil) (.node (o118 P) .nil .nil))) (.node (o30 P) (.node (o46 P) (.node (o78 P) .nil .nil) (.node (o110 P) .nil .nil)) (.node (o62 P) (.node (o94 P) .nil .nil) .nil))))))
noncomputable def S15 (w : World) (os : OsState) : SharedT := ⟨T15 w.params, nat_lit 124, {}, #[], {}, nat_lit 2308, os⟩
noncomputable def q15 : Pos := ⟨78, 0, 88, 41⟩
noncomputable def T16 (P : Params) : BT := (.node (boot_o_0 P) (.node (boot_o_1 P) (.node (o3v16 P) (.node (boot_o_7 P) (.node (o15 P) (.node (o31 P) (.node (o63 P) (.node (o127 P) .nil .nil) .nil) (.node (o95 P) .nil .nil)) (.node (o47 P) (.node (o79 P) .nil .nil) (.node (o111 P) .nil .nil))) (.node (o23 P) (.node (o39 P) (.node (o71 P) .nil .nil) (.node (o103 P) .nil .nil)) (.node (o55 P) (.node (o87 P) .nil .nil) (.node (o119 P) .nil .nil)))) (.node (o11 P) (.node (o19 P) (.node (o35 P) (.node (o67 P) .nil .nil) (.node (o99 P) .nil .nil)) (.node (o51 P) (.node (o83 P) .nil .nil) (.node (o115 P) .nil .nil))) (.node (o27 P) (.node (o43 P) (.node (o75 P) .nil .nil) (.node (o107 P) .nil .nil)) (.node (o59 P) (.node (o91 P) .nil .nil) (.node (o123 P) .nil .nil))))) (.node (boot_o_5 P) (.node (boot_o_9 P) (.node (o17 P) (.node (o33 P) (.node (o65 P) .nil .nil) (.node (o97 P) .nil .nil)) (.node (o49 P) (.node (o81 P) .nil .nil) (.node (o113 P) .nil .nil))) (.node (o25 P) (.node (o41 P) (.node (o73 P) .nil .nil) (.node (o105 P) .nil .nil)) (.node (o57 P) (.node (o89 P) .nil .nil) (.node (o121 P) .nil .nil)))) (.node (o13 P) (.node (o21 P) (.node (o37 P) (.node (o69 P) .nil .nil) (.node (o101 P) .nil .nil)) (.node (o53 P) (.node (o85 P) .nil .nil) (.node (o117 P) .nil .nil))) (.node (o29 P) (.node (o45 P) (.node (o77 P) .nil .nil) (.node (o109 P) .nil .nil)) (.node (o61 P) (.node (o93 P) .nil .nil) (.node (o125 P) .nil .nil)))))) (.node (boot_o_2 P) (.node (boot_o_4 P) (.node (boot_o_8 P) (.node (o16 P) (.node (o32 P) (.node (o64 P) (.node (o128 P) .nil .nil) .nil) (.node (o96 P) .nil .nil)) (.node (o48 P) (.node (o80 P) .nil .nil) (.node (o112 P) .nil .nil))) (.node (o24 P) (.node (o40 P) (.node (o72 P) .nil .nil) (.node (o104 P) .nil .nil)) (.node (o56 P) (.node (o88 P) .nil .nil) (.node (o120 P) .nil .nil)))) (.node (o12v16 P) (.node (o20 P) (.node (o36 P) (.node (o68 P) .nil .nil) (.node (o100 P) .nil .nil)) (.node (o52 P) (.node (o84 P) .nil .nil) (.node (o116 P) .nil .nil))) (.node (o28 P) (.node (o44 P) (.node (o76 P) .nil .nil) (.node (o108 P) .nil .nil)) (.node (o60 P) (.node (o92 P) .nil .nil) (.node (o124 P) .nil .nil))))) (.node (boot_o_6 P) (.node (boot_o_10 P) (.node (o18 P) (.node (o34 P) (.node (o66 P) .nil .nil) (.node (o98 P) .nil .nil)) (.node (o50 P) (.node (o82 P) .nil .nil) (.node (o114 P) .nil .nil))) (.node (o26 P) (.node (o42 P) (.node (o74 P) .nil .nil) (.node (o106 P) .nil .nil)) (.node (o58 P) (.node (o90 P) .nil .nil) (.node (o122 P) .nil .nil)))) (.node (o14 P) (.node (o22 P) (.node (o38 P) (.node (o70 P) .nil .nil) (.node (o102 P) .nil .nil)) (.node (o54 P) (.node (o86 P) .nil .nil) (.node (o118 P) .nil .nil))) (.node (o30 P) (.node (o46 P) (.node (o78 P) .nil .nil) (.node (o110 P) .nil .nil)) (.node (o62 P) (.node (o94 P) .nil .nil) (.node (o126 P) .nil .nil)))))))
noncomputable def S16 (w : World) (os : OsState) : SharedT := ⟨T16 w.params, nat_lit 129, {}, #[], {}, nat_lit 2314, os⟩
noncomputable def q16 : Pos := ⟨89, 0, 92, 57⟩
noncomputable def T17 (P : Params) : BT := (.node (boot_o_0 P) (.node (boot_o_1 P) (.node (o3v17 P) (.node (boot_o_7 P) (.node (o15 P) (.node (o31 P) (.node (o63 P) (.node (o127 P) .nil .nil) .nil) (.node (o95 P) .nil .nil)) (.node (o47 P) (.node (o79 P) .nil .nil) (.node (o111 P) .nil .nil))) (.node (o23 P) (.node (o39 P) (.node (o71 P) (.node (o135 P) .nil .nil) .nil) (.node (o103 P) .nil .nil)) (.node (o55 P) (.node (o87 P) .nil .nil) (.node (o119 P) .nil .nil)))) (.node (o11 P) (.node (o19 P) (.node (o35 P) (.node (o67 P) (.node (o131 P) .nil .nil) .nil) (.node (o99 P) .nil .nil)) (.node (o51 P) (.node (o83 P) .nil .nil) (.node (o115 P) .nil .nil))) (.node (o27 P) (.node (o43 P) (.node (o75 P) .nil .nil) (.node (o107 P) .nil .nil)) (.node (o59 P) (.node (o91 P) .nil .nil) (.node (o123 P) .nil .nil))))) (.node (boot_o_5 P) (.node (boot_o_9 P) (.node (o17 P) (.node (o33 P) (.node (o65 P) (.node (o129 P) .nil .nil) .nil) (.node (o97 P) .nil .nil)) (.node (o49 P) (.node (o81 P) .nil .nil) (.node (o113 P) .nil .nil))) (.node (o25 P) (.node (o41 P) (.node (o73 P) .nil .nil) (.node (o105 P) .nil .nil)) (.node (o57 P) (.node (o89 P) .nil .nil) (.node (o121 P) .nil .nil)))) (.node (o13 P) (.node (o21 P) (.node (o37 P) (.node (o69 P) (.node (o133 P) .nil .nil) .nil) (.node (o101 P) .nil .nil)) (.node (o53 P) (.node (o85 P) .nil .nil) (.node (o117 P) .nil .nil))) (.node (o29 P) (.node (o45 P) (.node (o77 P) .nil .nil) (.node (o109 P) .nil .nil)) (.node (o61 P) (.node (o93 P) .nil .nil) (.node (o125 P) .nil .nil)))))) (.node (boot_o_2 P) (.node (boot_o_4 P) (.node (boot_o_8 P) (.node (o16 P) (.node (o32 P) (.node (o64 P) (.node (o128 P) .nil .nil) .nil) (.node (o96 P) .nil .nil)) (.node (o48 P) (.node (o80 P) .nil .nil) (.node (o112 P) .nil .nil))) (.node (o24 P) (.node (o40 P) (.node (o72 P) .nil .nil) (.node (o104 P) .nil .nil)) (.node (o56 P) (.node (o88 P) .nil .nil) (.node (o120 P) .nil .nil)))) (.node (o12v17 P) (.node (o20 P) (.node (o36 P) (.node (o68 P) (.node (o132 P) .nil .nil) .nil) (.node (o100 P) .nil .nil)) (.node (o52 P) (.node (o84 P) .nil .nil) (.node (o116 P) .nil .nil))) (.node (o28 P) (.node (o44 P) (.node (o76 P) .nil .nil) (.node (o108 P) .nil .nil)) (.node (o60 P) (.node (o92 P) .nil .nil) (.node (o124 P) .nil .nil))))) (.node (boot_o_6 P) (.node (boot_o_10 P) (.node (o18 P) (.node (o34 P) (.node (o66 P) (.node (o130 P) .nil .nil) .nil) (.node (o98 P) .nil .nil)) (.node (o50 P) (.node (o82 P) .nil .nil) (.node (o114 P) .nil .nil))) (.node (o26 P) (.node (o42 P) (.node (o74 P) .nil .nil) (.node (o106 P) .nil .nil)) (.node (o58 P) (.node (o90 P) .nil .nil) (.node (o122 P) .nil .nil)))) (.node (o14 P) (.node (o22 P) (.node (o38 P) (.node (o70 P) (.node (o134 P) .nil .nil) .nil) (.node (o102 P) .nil .nil)) (.node (o54 P) (.node (o86 P) .nil .nil) (.node (o118 P) .nil .nil))) (.node (o30 P) (.node (o46 P) (.node (o78 P) .nil .nil) (.node (o110 P) .nil .nil)) (.node (o62 P) (.node (o94 P) .nil .nil) (.node (o126 P) .nil .nil)))))))
noncomputable def S17 (w : World) (os : OsState) : SharedT := ⟨T17 w.params, nat_lit 136, {}, #[], {}, nat_lit 2326, os⟩
noncomputable def q17 : Pos := ⟨93, 0, 102, 15⟩
noncomputable def T18 (P : Params) : BT := (.node (boot_o_0 P) (.node (boot_o_1 P) (.node (o3v18 P) (.node (boot_o_7 P) (.node (o15 P) (.node (o31 P) (.node (o63 P) (.node (o127 P) .nil .nil) .nil) (.node (o95 P) .nil .nil)) (.node (o47 P) (.node (o79 P) .nil .nil) (.node (o111 P) .nil .nil))) (.node (o23 P) (.node (o39 P) (.node (o71 P) (.node (o135 P) .nil .nil) .nil) (.node (o103 P) .nil .nil)) (.node (o55 P) (.node (o87 P) .nil .nil) (.node (o119 P) .nil .nil)))) (.node (o11 P) (.node (o19 P) (.node (o35 P) (.node (o67 P) (.node (o131 P) .nil .nil) .nil) (.node (o99 P) .nil .nil)) (.node (o51 P) (.node (o83 P) .nil .nil) (.node (o115 P) .nil .nil))) (.node (o27 P) (.node (o43 P) (.node (o75 P) (.node (o139 P) .nil .nil) .nil) (.node (o107 P) .nil .nil)) (.node (o59 P) (.node (o91 P) .nil .nil) (.node (o123 P) .nil .nil))))) (.node (boot_o_5 P) (.node (boot_o_9 P) (.node (o17 P) (.node (o33 P) (.node (o65 P) (.node (o129 P) .nil .nil) .nil) (.node (o97 P) .nil .nil)) (.node (o49 P) (.node (o81 P) .nil .nil) (.node (o113 P) .nil .nil))) (.node (o25 P) (.node (o41 P) (.node (o73 P) (.node (o137 P) .nil .nil) .nil) (.node (o105 P) .nil .nil)) (.node (o57 P) (.node (o89 P) .nil .nil) (.node (o121 P) .nil .nil)))) (.node (o13 P) (.node (o21 P) (.node (o37 P) (.node (o69 P) (.node (o133 P) .nil .nil) .nil) (.node (o101 P) .nil .nil)) (.node (o53 P) (.node (o85 P) .nil .nil) (.node (o117 P) .nil .nil))) (.node (o29 P) (.node (o45 P) (.node (o77 P) .nil .nil) (.node (o109 P) .nil .nil)) (.node (o61 P) (.node (o93 P) .nil .nil) (.node (o125 P) .nil .nil)))))) (.node (boot_o_2 P) (.node (boot_o_4 P) (.node (boot_o_8 P) (.node (o16 P) (.node (o32 P) (.node (o64 P) (.node (o128 P) .nil .nil) .nil) (.node (o96 P) .nil .nil)) (.node (o48 P) (.node (o80 P) .nil .nil) (.node (o112 P) .nil .nil))) (.node (o24 P) (.node (o40 P) (.node (o72 P) (.node (o136 P) .nil .nil) .nil) (.node (o104 P) .nil .nil)) (.node (o56 P) (.node (o88 P) .nil .nil) (.node (o120 P) .nil .nil)))) (.node (o12v18 P) (.node (o20 P) (.node (o36 P) (.node (o68 P) (.node (o132 P) .nil .nil) .nil) (.node (o100 P) .nil .nil)) (.node (o52 P) (.node (o84 P) .nil .nil) (.node (o116 P) .nil .nil))) (.node (o28 P) (.node (o44 P) (.node (o76 P) (.node (o140 P) .nil .nil) .nil) (.node (o108 P) .nil .nil)) (.node (o60 P) (.node (o92 P) .nil .nil) (.node (o124 P) .nil .nil))))) (.node (boot_o_6 P) (.node (boot_o_10 P) (.node (o18 P) (.node (o34 P) (.node (o66 P) (.node (o130 P) .nil .nil) .nil) (.node (o98 P) .nil .nil)) (.node (o50 P) (.node (o82 P) .nil .nil) (.node (o114 P) .nil .nil))) (.node (o26 P) (.node (o42 P) (.node (o74 P) (.node (o138 P) .nil .nil) .nil) (.node (o106 P) .nil .nil)) (.node (o58 P) (.node (o90 P) .nil .nil) (.node (o122 P) .nil .nil)))) (.node (o14 P) (.node (o22 P) (.node (o38 P) (.node (o70 P) (.node (o134 P) .nil .nil) .nil) (.node (o102 P) .nil .nil)) (.node (o54 P) (.node (o86 P) .nil .nil) (.node (o118 P) .nil .nil))) (.node (o30 P) (.node (o46 P) (.node (o78 P) .nil .nil) (.node (o110 P) .nil .nil)) (.node (o62 P) (.node (o94 P) .nil .nil) (.node (o126 P) .nil .nil)))))))
noncomputable def S18 (w : World) (os : OsState) : SharedT := ⟨T18 w.params, nat_lit 141, {}, #[], {}, nat_lit 2332, os⟩
noncomputable def q18 : Pos := ⟨103, 0, 105, 60⟩
noncomputable def T19 (P : Params) : BT := (.node (boot_o_0 P) (.node (boot_o_1 P) (.node (o3v19 P) (.node (boot_o_7 P) (.node (o15 P) (.node (o31 P) (.node (o63 P) (.node (o127 P) .nil .nil) .nil) (.node (o95 P) .nil .nil)) (.node (o47 P) (.node (o79 P) (.node (o143 P) .nil .nil) .nil) (.node (o111 P) .nil .nil))) (.node (o23 P) (.node (o39 P) (.node (o71 P) (.node (o135 P) .nil .nil) .nil) (.node (o103 P) .nil .nil)) (.node (o55 P) (.node (o87 P) .nil .nil) (.node (o119 P) .nil .nil)))) (.node (o11 P) (.node (o19 P) (.node (o35 P) (.node (o67 P) (.node (o131 P) .nil .nil) .nil) (.node (o99 P) .nil .nil)) (.node (o51 P) (.node (o83 P) (.node (o147 P) .nil .nil) .nil) (.node (o115 P) .nil .nil))) (.node (o27 P) (.node (o43 P) (.node (o75 P) (.node (o139 P) .nil .nil) .nil) (.node (o107 P) .nil .nil)) (.node (o59 P) (.node (o91 P) .nil .nil) (.node (o123 P) .nil .nil))))) (.node (boot_o_5 P) (.node (boot_o_9 P) (.node (o17 P) (.node (o33 P) (.node (o65 P) (.node (o129 P) .nil .nil) .nil) (.node (o97 P) .nil .nil)) (.node (o49 P) (.node (o81 P) (.node (o145 P) .nil .nil) .nil) (.node (o113 P) .nil .nil))) (.node (o25 P) (.node (o41 P) (.node (o73 P) (.node (o137 P) .nil .nil) .nil) (.node (o105 P) .nil .nil)) (.node (o57 P) (.node (o89 P) .nil .nil) (.node (o121 P) .nil .nil)))) (.node (o13 P) (.node (o21 P) (.node (o37 P) (.node (o69 P) (.node (o133 P) .nil .nil) .nil) (.node (o101 P) .nil .nil)) (.node (o53 P) (.node (o85 P) .nil .nil) (.node (o117 P) .nil .nil))) (.node (o29 P) (.node (o45 P) (.node (o77 P) (.node (o141 P) .nil .nil) .nil) (.node (o109 P) .nil .nil)) (.node (o61 P) (.node (o93 P) .nil .nil) (.node (o125 P) .nil .nil)))))) (.node (boot_o_2 P) (.node (boot_o_4 P) (.node (boot_o_8 P) (.node (o16 P) (.node (o32 P) (.node (o64 P) (.node (o128 P) .nil .nil) .nil) (.node (o96 P) .nil .nil)) (.node (o48 P) (.node (o80 P) (.node (o144 P) .nil .nil) .nil) (.node (o112 P) .nil .nil))) (.node (o24 P) (.node (o40 P) (.node (o72 P) (.node (o136 P) .nil .nil) .nil) (.node (o104 P) .nil .nil)) (.node (o56 P) (.node (o88 P) .nil .nil) (.node (o120 P) .nil .nil)))) (.node (o12v19 P) (.node (o20 P) (.node (o36 P) (.node (o68 P) (.node (o132 P) .nil .nil) .nil) (.node (o100 P) .nil .nil)) (.node (o52 P) (.node (o84 P) .nil .nil) (.node (o116 P) .nil .nil))) (.node (o28 P) (.node (o44 P) (.node (o76 P) (.node (o140 P) .nil .nil) .nil) (.node (o108 P) .nil .nil)) (.node (o60 P) (.node (o92 P) .nil .nil) (.node (o124 P) .nil .nil))))) (.node (boot_o_6 P) (.node (boot_o_10 P) (.node (o18 P) (.node (o34 P) (.node (o66 P) (.node (o130 P) .nil .nil) .nil) (.node (o98 P) .nil .nil)) (.node (o50 P) (.node (o82 P) (.node (o146 P) .nil .nil) .nil) (.node (o114 P) .nil .nil))) (.node (o26 P) (.node (o42 P) (.node (o74 P) (.node (o138 P) .nil .nil) .nil) (.node (o106 P) .nil .nil)) (.node (o58 P) (.node (o90 P) .nil .nil) (.node (o122 P) .nil .nil)))) (.node (o14 P) (.node (o22 P) (.node (o38 P) (.node (o70 P) (.node (o134 P) .nil .nil) .nil) (.node (o102 P) .nil .nil)) (.node (o54 P) (.node (o86 P) .nil .nil) (.node (o118 P) .nil .nil))) (.node (o30 P) (.node (o46 P) (.node (o78 P) (.node (o142 P) .nil .nil) .nil) (.node (o110 P) .nil .nil)) (.node (o62 P) (.node (o94 P) .nil .nil) (.node (o126 P) .nil .nil)))))))
noncomputable def S19 (w : World) (os : OsState) : SharedT := ⟨T19 w.params, nat_lit 148, {}, #[], {}, nat_lit 2350, os⟩
noncomputable def q19 : Pos := ⟨106, 0, 117, 30⟩
noncomputable def T20 (P : Params) : BT := (.node (boot_o_0 P) (.node (boot_o_1 P) (.node (o3v20 P) (.node (boot_o_7 P) (.node (o15 P) (.node (o31 P) (.node (o63 P) (.node (o127 P) .nil .nil) .nil) (.node (o95 P) .nil .nil)) (.node (o47 P) (.node (o79 P) (.node (o143 P) .nil .nil) .nil) (.node (o111 P) .nil .nil))) (.node (o23 P) (.node (o39 P) (.node (o71 P) (.node (o135 P) .nil .nil) .nil) (.node (o103 P) .nil .nil)) (.node (o55 P) (.node (o87 P) (.node (o151 P) .nil .nil) .nil) (.node (o119 P) .nil .nil)))) (.node (o11 P) (.node (o19 P) (.node (o35 P) (.node (o67 P) (.node (o131 P) .nil .nil) .nil) (.node (o99 P) .nil .nil)) (.node (o51 P) (.node (o83 P) (.node (o147 P) .nil .nil) .nil) (.node (o115 P) .nil .nil))) (.node (o27 P) (.node (o43 P) (.node (o75 P) (.node (o139 P) .nil .nil) .nil) (.node (o107 P) .nil .nil)) (.node (o59 P) (.node (o91 P) .nil .nil) (.node (o123 P) .nil .nil))))) (.node (boot_o_5 P) (.node (boot_o_9 P) (.node (o17 P) (.node (o33 P) (.node (o65 P) (.node (o129 P) .nil .nil) .nil) (.node (o97 P) .nil .nil)) (.node (o49 P) (.node (o81 P) (.node (o145 P) .nil .nil) .nil) (.node (o113 P) .nil .nil))) (.node (o25 P) (.node (o41 P) (.node (o73 P) (.node (o137 P) .nil .nil) .nil) (.node (o105 P) .nil .nil)) (.node (o57 P) (.node (o89 P) .nil .nil) (.node (o121 P) .nil .nil)))) (.node (o13 P) (.node (o21 P) (.node (o37 P) (.node (o69 P) (.node (o133 P) .nil .nil) .nil) (.node (o101 P) .nil .nil)) (.node (o53 P) (.node (o85 P) (.node (o149 P) .nil .nil) .nil) (.node (o117 P) .nil .nil))) (.node (o29 P) (.node (o45 P) (.node (o77 P) (.node (o141 P) .nil .nil) .nil) (.node (o109 P) .nil .nil)) (.node (o61 P) (.node (o93 P) .nil .nil) (.node (o125 P) .nil .nil)))))) (.node (boot_o_2 P) (.node (boot_o_4 P) (.node (boot_o_8 P) (.node (o16 P) (.node (o32 P) (.node (o64 P) (.node (o128 P) .nil .nil) .nil) (.node (o96 P) .nil .nil)) (.node (o48 P) (.node (o80 P) (.node (o144 P) .nil .nil) .nil) (.node (o112 P) .nil .nil))) (.node (o24 P) (.node (o40 P) (.node (o72 P) (.node (o136 P) .nil .nil) .nil) (.node (o104 P) .nil .nil)) (.node (o56 P) (.node (o88 P) (.node (o152 P) .nil .nil) .nil) (.node (o120 P) .nil .nil)))) (.node (o12v20 P) (.node (o20 P) (.node (o36 P) (.node (o68 P) (.node (o132 P) .nil .nil) .nil) (.node (o100 P) .nil .nil)) (.node (o52 P) (.node (o84 P) (.node (o148 P) .nil .nil) .nil) (.node (o116 P) .nil .nil))) (.node (o28 P) (.node (o44 P) (.node (o76 P) (.node (o140 P) .nil .nil) .nil) (.node (o108 P) .nil .nil)) (.node (o60 P) (.node (o92 P) .nil .nil) (.node (o124 P) .nil .nil))))) (.node (boot_o_6 P) (.node (boot_o_10 P) (.node (o18 P) (.node (o34 P) (.node (o66 P) (.node (o130 P) .nil .nil) .nil) (.node (o98 P) .nil .nil)) (.node (o50 P) (.node (o82 P) (.node (o146 P) .nil .nil) .nil) (.node (o114 P) .nil .nil))) (.node (o26 P) (.node (o42 P) (.node (o74 P) (.node (o138 P) .nil .nil) .nil) (.node (o106 P) .nil .nil)) (.node (o58 P) (.node (o90 P) .nil .nil) (.node (o122 P) .nil .nil)))) (.node (o14 P) (.node (o22 P) (.node (o38 P) (.node (o70 P) (.node (o134 P) .nil .nil) .nil) (.node (o102 P) .nil .nil)) (.node (o54 P) (.node (o86 P) (.node (o150 P) .nil .nil) .nil) (.node (o118 P) .nil .nil))) (.node (o30 P) (.node (o46 P) (.node (o78 P) (.node (o142 P) .nil .nil) .nil) (.node (o110 P) .nil .nil)) (.node (o62 P) (.node (o94 P) .nil .nil) (.node (o126 P) .nil .nil)))))))
noncomputable def S20 (w : World) (os : OsState) : SharedT := ⟨T20 w.params, nat_lit 153, {}, #[], {}, nat_lit 2356, os⟩
noncomputable def q20 : Pos := ⟨118, 0, 127, 133⟩
noncomputable def T21 (P : Params) : BT := (.node (boot_o_0 P) (.node (boot_o_1 P) (.node (o3v21 P) (.node (boot_o_7 P) (.node (o15 P) (.node (o31 P) (.node (o63 P) (.node (o127 P) .nil .nil) .nil) (.node (o95 P) .nil .nil)) (.node (o47 P) (.node (o79 P) (.node (o143 P) .nil .nil) .nil) (.node (o111 P) .nil .nil))) (.node (o23 P) (.node (o39 P) (.node (o71 P) (.node (o135 P) .nil .nil) .nil) (.node (o103 P) .nil .nil)) (.node (o55 P) (.node (o87 P) (.node (o151 P) .nil .nil) .nil) (.node (o119 P) .nil .nil)))) (.node (o11 P) (.node (o19 P) (.node (o35 P) (.node (o67 P) (.node (o131 P) .nil .nil) .nil) (.node (o99 P) .nil .nil)) (.node (o51 P) (.node (o83 P) (.node (o147 P) .nil .nil) .nil) (.node (o115 P) .nil .nil))) (.node (o27 P) (.node (o43 P) (.node (o75 P) (.node (o139 P) .nil .nil) .nil) (.node (o107 P) .nil .nil)) (.node (o59 P) (.node (o91 P) (.node (o155 P) .nil .nil) .nil) (.node (o123 P) .nil .nil))))) (.node (boot_o_5 P) (.node (boot_o_9 P) (.node (o17 P) (.node (o33 P) (.node (o65 P) (.node (o129 P) .nil .nil) .nil) (.node (o97 P) .nil .nil)) (.node (o49 P) (.node (o81 P) (.node (o145 P) .nil .nil) .nil) (.node (o113 P) .nil .nil))) (.node (o25 P) (.node (o41 P) (.node (o73 P) (.node (o137 P) .nil .nil) .nil) (.node (o105 P) .nil .nil)) (.node (o57 P) (.node (o89 P) (.node (o153 P) .nil .nil) .nil) (.node (o121 P) .nil .nil)))) (.node (o13 P) (.node (o21 P) (.node (o37 P) (.node (o69 P) (.node (o133 P) .nil .nil) .nil) (.node (o101 P) .nil .nil)) (.node (o53 P) (.node (o85 P) (.node (o149 P) .nil .nil) .nil) (.node (o117 P) .nil .nil))) (.node (o29 P) (.node (o45 P) (.node (o77 P) (.node (o141 P) .nil .nil) .nil) (.node (o109 P) .nil .nil)) (.node (o61 P) (.node (o93 P) (.node (o157 P) .nil .nil) .nil) (.node (o125 P) .nil .nil)))))) (.node (boot_o_2 P) (.node (boot_o_4 P) (.node (boot_o_8 P) (.node (o16 P) (.node (o32 P) (.node (o64 P) (.node (o128 P) .nil .nil) .nil) (.node (o96 P) .nil .nil)) (.node (o48 P) (.node (o80 P) (.node (o144 P) .nil .nil) .nil) (.node (o112 P) .nil .nil))) (.node (o24 P) (.node (o40 P) (.node (o72 P) (.node (o136 P) .nil .nil) .nil) (.node (o104 P) .nil .nil)) (.node (o56 P) (.node (o88 P) (.node (o152 P) .nil .nil) .nil) (.node (o120 P) .nil .nil)))) (.node (o12v21 P) (.node (o20 P) (.node (o36 P) (.node (o68 P) (.node (o132 P) .nil .nil) .nil) (.node (o100 P) .nil .nil)) (.node (o52 P) (.node (o84 P) (.node (o148 P) .nil .nil) .nil) (.node (o116 P) .nil .nil))) (.node (o28 P) (.node (o44 P) (.node (o76 P) (.node (o140 P) .nil .nil) .nil) (.node (o108 P) .nil .nil)) (.node (o60 P) (.node (o92 P) (.node (o156 P) .nil .nil) .nil) (.node (o124 P) .nil .nil))))) (.node (boot_o_6 P) (.node (boot_o_10 P) (.node (o18 P) (.node (o34 P) (.node (o66 P) (.node (o130 P) .nil .nil) .nil) (.node (o98 P) .nil .nil)) (.node (o50 P) (.node (o82 P) (.node (o146 P) .nil .nil) .nil) (.node (o114 P) .nil .nil))) (.node (o26 P) (.node (o42 P) (.node (o74 P) (.node (o138 P) .nil .nil) .nil) (.node (o106 P) .nil .nil)) (.node (o58 P) (.node (o90 P) (.node (o154 P) .nil .nil) .nil) (.node (o122 P) .nil .nil)))) (.node (o14 P) (.node (o22 P) (.node (o38 P) (.node (o70 P) (.node (o134 P) .nil .nil) .nil) (.node (o102 P) .nil .nil)) (.node (o54 P) (.node (o86 P) (.node (o150 P) .nil .nil) .nil) (.node (o118 P) .nil .nil))) (.node (o30 P) (.node (o46 P) (.node (o78 P) (.node (o142 P) .nil .nil) .nil) (.node (o110 P) .nil .nil)) (.node (o62 P) (.node (o94 P) .nil .nil) (.node (o126 P) .nil .nil)))))))
noncomputable def S21 (w : World) (os : OsState) : SharedT := ⟨T21 w.params, nat_lit 158, {}, #[], {}, nat_lit 2362, os⟩
noncomputable def q21 : Pos := ⟨128, 0, 140, 114⟩
noncomputable def T22 (P : Params) : BT := (.node (boot_o_0 P) (.node (boot_o_1 P) (.node (o3v22 P) (.node (boot_o_7 P) (.node (o15 P) (.node (o31 P) (.node (o63 P) (.node (o127 P) .nil .nil) .nil) (.node (o95 P) (.node (o159 P) .nil .nil) .nil)) (.node (o47 P) (.node (o79 P) (.node (o143 P) .nil .nil) .nil) (.node (o111 P) .nil .nil))) (.node (o23 P) (.node (o39 P) (.node (o71 P) (.node (o135 P) .nil .nil) .nil) (.node (o103 P) .nil .nil)) (.node (o55 P) (.node (o87 P) (.node (o151 P) .nil .nil) .nil) (.node (o119 P) .nil .nil)))) (.node (o11 P) (.node (o19 P) (.node (o35 P) (.node (o67 P) (.node (o131 P) .nil .nil) .nil) (.node (o99 P) (.node (o163 P) .nil .nil) .nil)) (.node (o51 P) (.node (o83 P) (.node (o147 P) .nil .nil) .nil) (.node (o115 P) .nil .nil))) (.node (o27 P) (.node (o43 P) (.node (o75 P) (.node (o139 P) .nil .nil) .nil) (.node (o107 P) .nil .nil)) (.node (o59 P) (.node (o91 P) (.node (o155 P) .nil .nil) .nil) (.node (o123 P) .nil .nil))))) (.node (boot_o_5 P) (.node (boot_o_9 P) (.node (o17 P) (.node (o33 P) (.node (o65 P) (.node (o129 P) .nil .nil) .nil) (.node (o97 P) (.node (o161 P) .nil .nil) .nil)) (.node (o49 P) (.node (o81 P) (.node (o145 P) .nil .nil) .nil) (.node (o113 P) .nil .nil))) (.node (o25 P) (.node (o41 P) (.node (o73 P) (.node (o137 P) .nil .nil) .nil) (.node (o105 P) .nil .nil)) (.node (o57 P) (.node (o89 P) (.node (o153 P) .nil .nil) .nil) (.node (o121 P) .nil .nil)))) (.node (o13 P) (.node (o21 P) (.node (o37 P) (.node (o69 P) (.node (o133 P) .nil .nil) .nil) (.node (o101 P) .nil .nil)) (.node (o53 P) (.node (o85 P) (.node (o149 P) .nil .nil) .nil) (.node (o117 P) .nil .nil))) (.node (o29 P) (.node (o45 P) (.node (o77 P) (.node (o141 P) .nil .nil) .nil) (.node (o109 P) .nil .nil)) (.node (o61 P) (.node (o93 P) (.node (o157 P) .nil .nil) .nil) (.node (o125 P) .nil .nil)))))) (.node (boot_o_2 P) (.node (boot_o_4 P) (.node (boot_o_8 P) (.node (o16 P) (.node (o32 P) (.node (o64 P) (.node (o128 P) .nil .nil) .nil) (.node (o96 P) (.node (o160 P) .nil .nil) .nil)) (.node (o48 P) (.node (o80 P) (.node (o144 P) .nil .nil) .nil) (.node (o112 P) .nil .nil))) (.node (o24 P) (.node (o40 P) (.node (o72 P) (.node (o136 P) .nil .nil) .nil) (.node (o104 P) .nil .nil)) (.node (o56 P) (.node (o88 P) (.node (o152 P) .nil .nil) .nil) (.node (o120 P) .nil .nil)))) (.node (o12v22 P) (.node (o20 P) (.node (o36 P) (.node (o68 P) (.node (o132 P) .nil .nil) .nil) (.node (o100 P) (.node (o164 P) .nil .nil) .nil)) (.node (o52 P) (.node (o84 P) (.node (o148 P) .nil .nil) .nil) (.node (o116 P) .nil .nil))) (.node (o28 P) (.node (o44 P) (.node (o76 P) (.node (o140 P) .nil .nil) .nil) (.node (o108 P) .nil .nil)) (.node (o60 P) (.node (o92 P) (.node (o156 P) .nil .nil) .nil) (.node (o124 P) .nil .nil))))) (.node (boot_o_6 P) (.node (boot_o_10 P) (.node (o18 P) (.node (o34 P) (.node (o66 P) (.node (o130 P) .nil .nil) .nil) (.node (o98 P) (.node (o162 P) .nil .nil) .nil)) (.node (o50 P) (.node (o82 P) (.node (o146 P) .nil .nil) .nil) (.node (o114 P) .nil .nil))) (.node (o26 P) (.node (o42 P) (.node (o74 P) (.node (o138 P) .nil .nil) .nil) (.node (o106 P) .nil .nil)) (.node (o58 P) (.node (o90 P) (.node (o154 P) .nil .nil) .nil) (.node (o122 P) .nil .nil)))) (.node (o14 P) (.node (o22 P) (.node (o38 P) (.node (o70 P) (.node (o134 P) .nil .nil) .nil) (.node (o102 P) .nil .nil)) (.node (o54 P) (.node (o86 P) (.node (o150 P) .nil .nil) .nil) (.node (o118 P) .nil .nil))) (.node (o30 P) (.node (o46 P) (.node (o78 P) (.node (o142 P) .nil .nil) .nil) (.node (o110 P) .nil .nil)) (.node (o62 P) (.node (o94 P) (.node (o158 P) .nil .nil) .nil) (.node (o126 P) .nil .nil)))))))
noncomputable def S22 (w : World) (os : OsState) : SharedT := ⟨T22 w.params, nat_lit 165, {}, #[], {}, nat_lit 2373, os⟩
noncomputable def q22 : Pos := ⟨141, 0, 146, 80⟩

noncomputable def envT : Env := { scope := pw.main.scope, locals := mainNs, globals := mainNs, cells := [], code := .ref 13, frame := some 14 }
noncomputable def stsR (a n : Nat) : List Stmt := (pw.main.body.drop a).take n
abbrev cT : Code := .body pw.main.body envT
abbrev annT : Option Value := some (.ref 6)
abbrev qZ : Pos := ⟨0, 0, 0, 0⟩
end
end Mine
end
section
open PySem PySem.W PyProof.Rows
set_option maxRecDepth 100000
namespace Mine
/-- the keys of a table ascend -/
noncomputable def ascFrom : Int → List (PyData × PyData) → Bool
  | _, [] => true
  | k, (.int j, _) :: D => decide (k < j) && ascFrom j D
  | _, _ => false
theorem ascFrom_ok : ∀ (D : List (PyData × PyData)) (k : Int), ascFrom k D = true → keysApartInt D = true ∧ ∀ i, i ≤ k → hasIntKey i D = false
  | [], _, _ => ⟨rfl, fun _ _ => rfl⟩
  | (.int j, v) :: D, k, h => by
    have h1 := Bool.and_eq_true_iff.mp (show (decide (k < j) && ascFrom j D) = true from h)
    have hk : k < j := of_decide_eq_true h1.1
    have ih := ascFrom_ok D j h1.2
    refine ⟨?_, fun i hi => ?_⟩
    · show (!hasIntKey j D && keysApartInt D) = true
      rw [ih.2 j (Int.le_refl _), ih.1]; rfl
    · have hne : i ≠ j := Int.ne_of_lt (Int.lt_of_le_of_lt hi hk)
      show ((j == i) || hasIntKey i D) = false
      rw [beq_false_of_ne (Ne.symm hne), ih.2 i (Int.le_of_lt (Int.lt_of_le_of_lt hi hk))]
      rfl
  | (.str _, _) :: _, _, h => by cases h
noncomputable def ascD : List (PyData × PyData) → Bool
  | [] => true
  | (.int k, _) :: D => ascFrom k D
  | _ => false
theorem ascD_ok : ∀ {D : List (PyData × PyData)}, ascD D = true → keysApartInt D = true
  | [], _ => rfl
  | (.int k, v) :: D, h => by
    have o := ascFrom_ok D k h
    show (!hasIntKey k D && keysApartInt D) = true
    rw [o.2 k (Int.le_refl _), o.1]; rfl
  | (.str _, _) :: _, h => by cases h
theorem tabIntOk_of {h : Heap} {x : Str} {D : List (PyData × PyData)} {a : Addr} {o : Obj} {es : Array DictEntry} {c : Nat} (h1 : h.nsMap mainGlobals x = some (.ref a)) (h2 : h.get? a = some o) (hc : o.cls = .type "dict") (hd : o.dict = none) (ho : o.data = .dict es c) (hs : (o.slots.size == 0) = true)
    (h3 : entriesAreInt es.toList D = true) (h4 : ascD D = true) (h5 : (a != sysModules) = true) : h.tabIntOk x D = true := by
  unfold Heap.tabIntOk
  rw [h1]
  simp only
  rw [h2]
  simp only [hc, hd, ho]
  rw [h3, ascD_ok h4, h5, hs]
  rfl
theorem and7 {a b c d e f g : Bool} (ha : a = true) (hb : b = true) (hc : c = true) (hd : d = true) (he : e = true) (hf : f = true) (hg : g = true) : (a && b && c && d && e && f && g) = true := by
  rw [ha, hb, hc, hd, he, hf, hg]; rfl
end Mine
end
section
open PySem PySem.W PyProof.Rows
set_option maxRecDepth 100000
set_option maxHeartbeats 1000000
namespace Mine
noncomputable section
abbrev BB : List Frame := [topFrame qZ]
abbrev Go (w : World) (n : Nat) (s : Shared) (t : Thread) := segGo treeTable pw w 11 annT 1 n s t

theorem go_trans {w : World} : ∀ {n m : Nat} {s s₁ : Shared} {t t₁ : Thread} {r : Option (Shared × Thread)}, Go w n s t = some (s₁, t₁) → Go w m s₁ t₁ = r → Go w (n + m) s t = r
  | 0, m, s, s₁, t, t₁, r, h, k => by
    have h' : (s, t) = (s₁, t₁) := Option.some.inj h
    cases h'
    rw [Nat.zero_add]; exact k
  | n + 1, m, s, s₁, t, t₁, r, h, k => by
    rw [show n + 1 + m = (n + m) + 1 by omega]
    simp only [Go, segGo] at h ⊢
    split at h
    · cases h
    · split at h
      · cases h
      · split at h
        · exact go_trans h k
        · cases h

/-- x runs from s to its value a and s' in at most c steps, whatever stands behind it -/
noncomputable def Det (w : World) (c : Nat) {α : Type} (x : Sem α) (s : Shared) (a : α) (s' : Shared) : Prop :=
  ∃ n, n ≤ c ∧ ∀ (q : Pos) (K : α → Sem Fin) (H : Value → Sem Fin) (gd : Bool → Bool) (lv : List Value → List Value),
    ∃ q', Go w n s ⟨x.wrap K H gd lv, cT, q, BB⟩ = some (s', ⟨K a, cT, q', BB⟩)

section
variable {w : World} {c c' n : Nat} {α β : Type} {s s' s'' : Shared} {x : Sem α} {a : α}
theorem det_pure : Det w 0 (.pure a : Sem α) s a s := ⟨0, Nat.le_refl _, fun q _ _ _ _ => ⟨q, rfl⟩⟩
theorem det_pure' : Det w 0 (pure a : Sem α) s a s := det_pure
theorem det_le (h : Det w c x s a s') (l : c ≤ c') : Det w c' x s a s' := let ⟨n, hn, h⟩ := h; ⟨n, Nat.le_trans hn l, h⟩
theorem det_bind {f : α → Sem β} {b : β} (h : Det w c x s a s') (k : Det w c' (f a) s' b s'') : Det w (c + c') (x >>= f) s b s'' := by
  obtain ⟨n, hn, h⟩ := h
  obtain ⟨m, hm, k⟩ := k
  refine ⟨n + m, by omega, fun q K H gd lv => ?_⟩
  obtain ⟨q', h⟩ := h q (fun a => (f a).wrap K H gd lv) (fun e => (Sem.raise e : Sem β).wrap K H gd lv) (fun g => gd (id g)) (fun l => lv (id l))
  obtain ⟨q'', k⟩ := k q' K H gd lv
  refine ⟨q'', ?_⟩
  rw [Sem.bind_eq_wrap', Sem.wrap_wrap]
  exact go_trans h k
theorem det_keep {vs : List Value} (h : Det w c x s a s') : Det w c (x.keep vs) s a s' := by
  obtain ⟨n, hn, h⟩ := h
  refine ⟨n, hn, fun q K H gd lv => ?_⟩
  rw [Sem.keep_eq_wrap, Sem.wrap_wrap]
  exact h q K H _ _
theorem det_onRaise {f : Value → Sem Unit} (h : Det w c x s a s') : Det w c (x.onRaise f) s a s' := by
  obtain ⟨n, hn, h⟩ := h
  refine ⟨n, hn, fun q K H gd lv => ?_⟩
  rw [Sem.onRaise_eq_wrap, Sem.wrap_wrap]
  exact h q K _ _ _
theorem det_holding {vs : List Value} (h : Det w c x s a s') : Det w c (holding vs x) s a s' := by
  unfold holding
  split
  · exact h
  · exact det_keep h
end
section
variable {w : World} {heap : Heap} {gens : Array GenState} {drawn : Drawn} {toks : Nat} {os : OsState}
theorem det_rule (tag : String) : Det w 1 (rule tag) ⟨heap, gens, drawn, toks, os⟩ () ⟨heap, gens, drawn, toks, os⟩ := ⟨1, Nat.le_refl _, fun q _ _ _ _ => ⟨q, rfl⟩⟩
theorem det_at (p : Pos) : Det w 1 (standAt p) ⟨heap, gens, drawn, toks, os⟩ () ⟨heap, gens, drawn, toks, os⟩ := ⟨1, Nat.le_refl _, fun _ _ _ _ _ => ⟨p, rfl⟩⟩
theorem det_point : Det w 1 point ⟨heap, gens, drawn, toks, os⟩ () ⟨heap, gens, drawn, toks, os⟩ := ⟨1, Nat.le_refl _, fun q _ _ _ _ => ⟨q, rfl⟩⟩
theorem det_fresh : Det w 1 fresh ⟨heap, gens, drawn, toks, os⟩ toks ⟨heap, gens, drawn, toks + 1, os⟩ := ⟨1, Nat.le_refl _, fun q _ _ _ _ => ⟨q, rfl⟩⟩
theorem det_mkInt (i : Int) : Det w 1 (mkInt i) ⟨heap, gens, drawn, toks, os⟩ (.int i toks) ⟨heap, gens, drawn, toks + 1, os⟩ := ⟨1, Nat.le_refl _, fun q _ _ _ _ => ⟨q, rfl⟩⟩
theorem det_mkText (x : Str) : Det w 1 (mkText x) ⟨heap, gens, drawn, toks, os⟩ (.str x toks) ⟨heap, gens, drawn, toks + 1, os⟩ := ⟨1, Nat.le_refl _, fun q _ _ _ _ => ⟨q, rfl⟩⟩
theorem det_alloc (o : Obj) : Det w 1 (alloc o) ⟨heap, gens, drawn, toks, os⟩ heap.objs.size ⟨heap.push o, gens, drawn, toks, os⟩ := ⟨1, Nat.le_refl _, fun q _ _ _ _ => ⟨q, rfl⟩⟩
theorem det_load {a : Addr} {part : Option Value} {o : Obj} (h : heap.get? a = some o) : Det w 1 (loadPart a part) ⟨heap, gens, drawn, toks, os⟩ o ⟨heap, gens, drawn, toks, os⟩ := by
  refine ⟨1, Nat.le_refl _, fun q K H gd lv => ⟨q, ?_⟩⟩
  show segGo treeTable pw w 11 annT 1 1 _ ⟨.load a part fun x => (Sem.pure x).wrap K H gd lv, cT, q, BB⟩ = _
  have e : stepOk 11 annT ⟨.load a part fun x => (Sem.pure x).wrap K H gd lv, cT, q, BB⟩ = true := rfl
  simp only [segGo, endAt, e, step, h, List.length_cons, List.length_nil]
  rfl
theorem det_update {a : Addr} {part : Option Value} {f : Obj → Obj} {o : Obj} (h : heap.get? a = some o) (ha : 11 ≤ a) : Det w 1 (updatePart a part f) ⟨heap, gens, drawn, toks, os⟩ () ⟨heap.update a f, gens, drawn, toks, os⟩ := by
  refine ⟨1, Nat.le_refl _, fun q K H gd lv => ⟨q, ?_⟩⟩
  show segGo treeTable pw w 11 annT 1 1 _ ⟨.update a part f fun x => (Sem.pure x).wrap K H gd lv, cT, q, BB⟩ = _
  have e0 : (Thread.calm ⟨.update a part f fun x => (Sem.pure x).wrap K H gd lv, cT, q, BB⟩) = true := rfl
  have e : stepOk 11 annT ⟨.update a part f fun x => (Sem.pure x).wrap K H gd lv, cT, q, BB⟩ = true := by
    unfold stepOk
    rw [e0]
    simp [Nat.ble_eq_true_of_le ha]
  simp only [segGo, endAt, e, step, h, List.length_cons, List.length_nil, Option.isSome_some, if_true]
  rfl
noncomputable def hashOf (x : Int) : Int := let h : Int := x.natAbs % (2 ^ 61 - 1 : Nat); let h := if x < 0 then -h else h; if h == -1 then -2 else h
theorem hash_go (w : World) (K : Int → Sem Fin) (H : Value → Sem Fin) (gd : Bool → Bool) (lv : List Value → List Value) (heap : Heap) (gens : Array GenState) (drawn : Drawn) (toks : Nat) (os : OsState) (k : Int) (t : Tok) (q : Pos) :
  Go w 5 ⟨heap, gens, drawn, toks, os⟩ ⟨(pyHash (.int k t)).wrap K H gd lv, cT, q, BB⟩ = some (⟨heap, gens, drawn, toks + 1, os⟩, ⟨(pyHashByItsType.reduced (hashOf k)).wrap K H gd lv, cT, q, BB⟩) := by
  revert w
  refine byRow2 "special-get-raises" (fun w => ?_) (fun w => ?_)
  · kernel_rfl
  · kernel_rfl
theorem hash_small {k : Int} (h0 : 0 ≤ k) (h1 : k < 2 ^ 60) : pyHashByItsType.reduced (hashOf k) = .pure k := by
  have e : hashOf k = k := by
    unfold hashOf
    have : (k.natAbs : Int) = k := Int.natAbs_of_nonneg h0
    simp only []
    rw [if_neg (by omega : ¬ k < 0)]
    have : (((k.natAbs % (2 ^ 61 - 1) : Nat)) : Int) = k := by omega
    have h2 : ((k.natAbs : Int) % ((2 ^ 61 - 1 : Nat) : Int)) = k := by omega
    rw [h2]
    have : (k == -1) = false := by simp; omega
    rw [this]; rfl
  rw [e]
  unfold pyHashByItsType.reduced
  have : (-(2 ^ 63 : Int) ≤ k && k < 2 ^ 63) = true := by simp; omega
  rw [if_pos (by simpa using this)]
  have : (k == -1) = false := by simp; omega
  rw [this]; rfl
theorem det_hash {k : Int} {t : Tok} (h0 : 0 ≤ k) (h1 : k < 2 ^ 60) : Det w 5 (pyHash (.int k t)) ⟨heap, gens, drawn, toks, os⟩ k ⟨heap, gens, drawn, toks + 1, os⟩ := by
  refine ⟨5, Nat.le_refl _, fun q K H gd lv => ⟨q, ?_⟩⟩
  rw [hash_go, hash_small h0 h1]
  rfl
end
end
end Mine
end
section
open PySem PySem.W PyProof.Rows
set_option maxRecDepth 100000
set_option maxHeartbeats 1000000
namespace Mine
noncomputable section
abbrev dO (es : List DictEntry) : Obj := dictOb es es.length
abbrev dOs (ds : List (List DictEntry)) : Array Obj := (ds.map dO).toArray
abbrev mkH (base : Array Obj) (ds : List (List DictEntry)) (l : Life) : Heap := ⟨base ++ dOs ds, l⟩
section
variable {base : Array Obj} {A B : List (List DictEntry)} {es : List DictEntry} {l : Life} {e : DictEntry}
theorem mkH_get : (mkH base (A ++ es :: B) l).get? (base.size + A.length) = some (dO es) := by
  unfold Heap.get?
  have q : (base ++ dOs (A ++ es :: B))[base.size + A.length]? = some (dO es) := by
    rw [Array.getElem?_append_right (by omega), show base.size + A.length - base.size = A.length by omega, List.getElem?_toArray, List.map_append, List.getElem?_append_right (by simp), List.length_map, Nat.sub_self]
    rfl
  show (match (base ++ dOs (A ++ es :: B))[base.size + A.length]? with | some ⟨_, _, .freed, _⟩ => none | o => o) = _
  rw [q]
  rfl
theorem dO_push : Obj.mapDictKeys (fun a => a.push e) (dO es) = dO (es ++ [e]) := by
  show (⟨_, _, .dict (es.toArray.push e) _, _⟩ : Obj) = ⟨_, _, .dict _ _, _⟩
  rw [List.push_toArray, List.length_append]
  rfl
theorem mkH_upd : (mkH base (A ++ es :: B) l).update (base.size + A.length) (Obj.mapDictKeys fun a => a.push e) = mkH base (A ++ (es ++ [e]) :: B) l := by
  show (⟨(base ++ dOs (A ++ es :: B)).modify (base.size + A.length) _, l⟩ : Heap) = ⟨base ++ dOs (A ++ (es ++ [e]) :: B), l⟩
  congr 1
  apply Array.ext_getElem?
  intro i
  rw [Array.getElem?_modify]
  by_cases h : i < base.size
  · rw [Array.getElem?_append_left h, Array.getElem?_append_left h, if_neg (by omega)]
  · rw [Array.getElem?_append_right (by omega), Array.getElem?_append_right (by omega), List.getElem?_toArray, List.getElem?_toArray, List.map_append, List.map_append]
    by_cases h2 : i - base.size < A.length
    · rw [List.getElem?_append_left (by simpa using h2), List.getElem?_append_left (by simpa using h2), if_neg (by omega)]
    · rw [List.getElem?_append_right (by simp; omega), List.getElem?_append_right (by simp; omega), List.length_map]
      by_cases h3 : i = base.size + A.length
      · rw [if_pos (by omega), show i - base.size - A.length = 0 by omega]
        show some (Obj.mapDictKeys _ (dO es)) = some (dO (es ++ [e]))
        rw [dO_push]
      · rw [if_neg (by omega)]
        obtain ⟨j, hj⟩ : ∃ j, i - base.size - A.length = j + 1 := ⟨i - base.size - A.length - 1, by omega⟩
        rw [hj]
        rfl
theorem mkH_push : (mkH base A l).push (dictOb [] 0) = mkH base (A ++ [[]]) l := by
  show (⟨(base ++ dOs A).push _, l⟩ : Heap) = ⟨base ++ dOs (A ++ [[]]), l⟩
  congr 1
  rw [dOs, dOs, List.map_append, ← Array.append_push, List.push_toArray]
  rfl
theorem mkH_size : (mkH base A l).objs.size = base.size + A.length := by simp [mkH, dOs]
end
section
variable {w : World} {heap : Heap} {gens : Array GenState} {drawn : Drawn} {toks : Nat} {os : OsState} {d : Addr} {es : List DictEntry} {n : Nat} {k : Int} {t : Tok} {v : Value} {x : Str} {tx : Tok} {A B : List (List DictEntry)} {base : Array Obj} {l : Life}
theorem det_entries {part : Option Value} (h : heap.get? d = some (dictOb es n)) : Det w 1 (dictEntries d part) ⟨heap, gens, drawn, toks, os⟩ es.toArray ⟨heap, gens, drawn, toks, os⟩ := by
  unfold dictEntries
  refine det_bind (c := 1) (c' := 0) (det_load h) ?_
  exact det_pure
theorem det_epoch {part : Option Value} (h : heap.get? d = some (dictOb es n)) : Det w 1 (dictEpoch d part) ⟨heap, gens, drawn, toks, os⟩ n ⟨heap, gens, drawn, toks, os⟩ := by
  unfold dictEpoch
  refine det_bind (c := 1) (c' := 0) (det_load h) ?_
  exact det_pure
theorem places_nil {m : Nat} {f : Nat → Option Int} {h : Int} (hf : ∀ i, f i ≠ some h) : placesWithHash m f h = [] := by
  unfold placesWithHash
  rw [List.filter_eq_nil_iff]
  intro i _
  simpa using hf i
theorem det_find (h : heap.get? d = some (dictOb es n)) (hk : ∀ e ∈ es, e.hash ≠ k) : Det w 1 (dictFind d (.int k t) k) ⟨heap, gens, drawn, toks, os⟩ none ⟨heap, gens, drawn, toks, os⟩ := by
  unfold dictFind
  refine det_holding (det_bind (c := 1) (c' := 0) (det_entries h) ?_)
  have e : placesWithHash es.toArray.size (fun i => es.toArray[i]?.map (·.hash)) k = [] := places_nil fun i q => by
    rw [List.getElem?_toArray] at q
    cases hi : es[i]? with
    | none => rw [hi] at q; cases q
    | some e =>
      rw [hi] at q
      exact hk e (List.mem_of_getElem? hi) (Option.some.inj q)
  dsimp only
  rw [e]
  exact det_pure
theorem det_keys (hl : es.length < sizeLine) {part : Option Value} (hb : 11 ≤ base.size) :
    Det w 3 (updateDictKeys (base.size + A.length) (·.push ⟨k, .int k t, v⟩) part) ⟨mkH base (A ++ es :: B) l, gens, drawn, toks, os⟩ () ⟨mkH base (A ++ (es ++ [⟨k, .int k t, v⟩]) :: B) l, gens, drawn, toks, os⟩ := by
  unfold updateDictKeys
  refine det_bind (c := 1) (c' := 2) (det_load mkH_get) ?_
  refine det_bind (c := 1) (c' := 1) (det_update mkH_get (Nat.le_trans hb (Nat.le_add_right _ _))) ?_
  rw [mkH_upd]
  unfold lookBehind
  refine det_bind (c := 1) (c' := 0) (det_load mkH_get) ?_
  have e : (dO (es ++ [⟨k, .int k t, v⟩])).data.pastItsLine = none := by
    show (if _ > _ then _ else _) = _
    rw [if_neg (by simp; omega)]
  rw [e]
  exact det_pure
theorem det_setHashed (hk : ∀ e ∈ es, e.hash ≠ k) (hl : es.length < sizeLine) (hb : 11 ≤ base.size) :
    Det w 5 (dictSetHashed (base.size + A.length) (.int k t) k v) ⟨mkH base (A ++ es :: B) l, gens, drawn, toks, os⟩ () ⟨mkH base (A ++ (es ++ [⟨k, .int k t, v⟩]) :: B) l, gens, drawn, toks, os⟩ := by
  unfold dictSetHashed
  refine det_holding (det_bind (c := 1) (c' := 4) (det_find mkH_get hk) ?_)
  dsimp only
  exact det_bind (c := 1) (c' := 3) (det_rule _) (det_keys hl hb)
theorem det_dictSet (h0 : 0 ≤ k) (h1 : k < 2 ^ 60) (hk : ∀ e ∈ es, e.hash ≠ k) (hl : es.length < sizeLine) (hb : 11 ≤ base.size) :
    Det w 10 (dictSet (base.size + A.length) (.int k t) v) ⟨mkH base (A ++ es :: B) l, gens, drawn, toks, os⟩ () ⟨mkH base (A ++ (es ++ [⟨k, .int k t, v⟩]) :: B) l, gens, drawn, toks + 1, os⟩ := by
  unfold dictSet
  exact det_holding (det_bind (c := 5) (c' := 5) (det_hash h0 h1) (det_setHashed hk hl hb))
theorem det_put (hk : ∀ e ∈ es, e.hash ≠ k) (hl : es.length < sizeLine) (hb : 11 ≤ base.size) :
    Det w 4 (dictPut (base.size + A.length) k (.int k t) v) ⟨mkH base (A ++ es :: B) l, gens, drawn, toks, os⟩ () ⟨mkH base (A ++ (es ++ [⟨k, .int k t, v⟩]) :: B) l, gens, drawn, toks, os⟩ := by
  unfold dictPut
  exact det_bind (c := 1) (c' := 3) (det_find mkH_get hk) (det_keys hl hb)

theorem det_for_nil {γ β : Type} {f : γ → β → Sem (ForInStep β)} {b : β} {s : Shared} : Det w 0 (forIn ([] : List γ) b f) s b s := by
  rw [List.forIn_nil]; exact det_pure
theorem det_for_cons {γ β : Type} {f : γ → β → Sem (ForInStep β)} {x : γ} {xs : List γ} {b b' r : β} {s s' s'' : Shared} {c c' : Nat} (h : Det w c (f x b) s (.yield b') s') (k : Det w c' (forIn xs b' f) s' r s'') :
    Det w (c + c') (forIn (x :: xs) b f) s r s'' := by
  rw [List.forIn_cons]
  exact det_bind h k

noncomputable def pairOf (p : Pos) (y : Int × Str) : Sem Value × Sem Value := (mkInt y.1, do let x ← mkText y.2; standAt p; pure x)
theorem det_val (p : Pos) (x : Str) : Det w 2 (do let x ← mkText x; standAt p; pure x) ⟨heap, gens, drawn, toks, os⟩ (.str x toks) ⟨heap, gens, drawn, toks + 1, os⟩ :=
  det_bind (c := 1) (c' := 1) (det_mkText x) (det_bind (c := 1) (c' := 0) (det_at p) det_pure)
noncomputable def Asc (es : List DictEntry) (T : List (Int × Str)) : Prop := (es.map (·.hash) ++ T.map (·.1)).Pairwise (· < ·)
theorem Asc.step {y : Int × Str} {T : List (Int × Str)} (h : Asc es (y :: T)) {e : DictEntry} (he : e.hash = y.1) : Asc (es ++ [e]) T := by
  unfold Asc at h ⊢
  simpa [he] using h
theorem Asc.new {y : Int × Str} {T : List (Int × Str)} (h : Asc es (y :: T)) : ∀ e ∈ es, e.hash ≠ y.1 := fun e he q => by
  unfold Asc at h
  rw [List.pairwise_append] at h
  have := h.2.2 e.hash (List.mem_map_of_mem he) y.1 (by simp)
  omega
noncomputable def Small (T : List (Int × Str)) : Prop := ∀ y ∈ T, 0 ≤ y.1 ∧ y.1 < 2 ^ 60
theorem det_fill (p : Pos) {f : Sem Value × Sem Value → PUnit → Sem (ForInStep PUnit)} (hb : 11 ≤ base.size)
    (hf : ∀ k v u, f (k, v) u = (do let kv ← k; let vv ← holding [kv] v; holding [kv, vv] (dictSet (base.size + A.length) kv vv); pure (.yield ()))) :
    ∀ (T : List (Int × Str)) (es : List DictEntry) (toks : Nat), Asc es T → Small T → es.length + T.length < sizeLine →
    Det w (13 * T.length) (forIn (T.map (pairOf p)) () f) ⟨mkH base (A ++ [es]) l, gens, drawn, toks, os⟩ () ⟨mkH base (A ++ [es ++ entsR toks 3 T]) l, gens, drawn, toks + 3 * T.length, os⟩
  | [], es, toks, _, _, _ => by
    rw [entsR, List.append_nil]
    exact det_for_nil
  | y :: T, es, toks, ha, hs, hl => by
    have hl' : es.length + (T.length + 1) < sizeLine := hl
    have ih := det_fill p (f := f) hb hf T (es ++ [⟨y.1, .int y.1 toks, .str y.2 (toks + 1)⟩]) (toks + 3) (ha.step rfl) (fun z hz => hs z (.tail _ hz)) (by simp; omega)
    rw [List.append_assoc, show toks + 3 + 3 * T.length = toks + 3 * (T.length + 1) by omega] at ih
    refine det_le (det_for_cons (c := 13) (c' := 13 * T.length) (s' := ⟨mkH base (A ++ [es ++ [⟨y.1, .int y.1 toks, .str y.2 (toks + 1)⟩]]) l, gens, drawn, toks + 3, os⟩) ?_ ih) (by simp; omega)
    show Det w 13 (f (mkInt y.1, _) ()) _ _ _
    rw [hf]
    refine det_bind (c := 1) (c' := 12) (det_mkInt _) ?_
    refine det_bind (c := 2) (c' := 10) (det_holding (det_val p y.2)) ?_
    refine det_bind (c := 10) (c' := 0) (det_holding (det_dictSet (hs y (.head _)).1 (hs y (.head _)).2 ha.new (by omega) hb)) ?_
    exact det_pure
end
end
end Mine
end
section
open PySem PySem.W PyProof.Rows
set_option maxRecDepth 100000
set_option maxHeartbeats 1000000
namespace Mine
noncomputable section
theorem dict_sub : isSubtype (.type "dict") (.type "dict") = pure true := by rw [isSubtype_type]; kernel_rfl
theorem dict_iter : typeLookup (.type "dict") "__iter__" = pure (some (.builtin "dict.__iter__")) := by rw [typeLookup_type, builtinLookup_eq_fast]; kernel_rfl
section
variable {w : World} {gens : Array GenState} {drawn : Drawn} {toks : Nat} {os : OsState} {A : List (List DictEntry)} {base : Array Obj} {l : Life}
theorem det_subLong (p : Pos) (hb : 11 ≤ base.size) {T : List (Int × Str)} (ha : Asc [] T) (hs : Small T) (hl : T.length < sizeLine) (h15 : ¬ T.length ≤ 15) :
    Det w (13 * T.length + 2) (subDict (T.map (pairOf p))) ⟨mkH base A l, gens, drawn, toks, os⟩ (base.size + A.length) ⟨mkH base (A ++ [entsR toks 3 T]) l, gens, drawn, toks + 3 * T.length, os⟩ := by
  unfold subDict
  refine det_le (det_bind (c := 1) (c' := 13 * T.length + 1) (det_alloc _) ?_) (by omega)
  rw [mkH_size, show (Heap.push (mkH base A l) { cls := .type "dict", data := .dict #[] }) = mkH base (A ++ [[]]) l from mkH_push]
  refine det_bind (c := 13 * T.length + 1) (c' := 0) (a := ()) ?_ det_pure
  refine det_holding ?_
  rw [if_neg (by simpa using h15)]
  refine det_le (det_bind (c := 1) (c' := 13 * T.length) (det_rule _) ?_) (by omega)
  exact det_bind (c := 13 * T.length) (c' := 0) (a := PUnit.unit) (det_fill p hb (fun k v u => rfl) T [] toks ha hs (by simpa using hl)) det_pure
noncomputable def valsR (t : Nat) : List (Int × Str) → List (Value × Value)
  | [] => []
  | (k, x) :: r => (.int k t, .str x (t + 1)) :: valsR (t + 2) r
theorem det_evalPairs (p : Pos) {heap : Heap} : ∀ (T : List (Int × Str)) (toks : Nat), Det w (3 * T.length) (evalPairs (T.map (pairOf p))) ⟨heap, gens, drawn, toks, os⟩ (valsR toks T) ⟨heap, gens, drawn, toks + 2 * T.length, os⟩
  | [], toks => det_pure
  | y :: T, toks => by
    have ih := det_evalPairs (heap := heap) p T (toks + 2)
    rw [show toks + 2 + 2 * T.length = toks + 2 * (T.length + 1) by omega] at ih
    show Det w (3 * (T.length + 1)) (do let kv ← mkInt y.1; let vv ← holding [kv] (do let x ← mkText y.2; standAt p; pure x); return (kv, vv) :: (← holding [kv, vv] (evalPairs (T.map (pairOf p))))) _ _ _
    refine det_le (det_bind (c := 1) (c' := 2 + 3 * T.length) (det_mkInt _) ?_) (by omega)
    refine det_bind (c := 2) (c' := 3 * T.length) (det_holding (det_val p y.2)) ?_
    exact det_bind (c := 3 * T.length) (c' := 0) (det_holding ih) det_pure
theorem det_fill2 {f : Value × Value → PUnit → Sem (ForInStep PUnit)} (hb : 11 ≤ base.size) (hf : ∀ k v u, f (k, v) u = (do dictSet (base.size + A.length) k v; pure (.yield ()))) :
    ∀ (T : List (Int × Str)) (es : List DictEntry) (t toks : Nat), Asc es T → Small T → es.length + T.length < sizeLine →
    Det w (10 * T.length) (forIn (valsR t T) () f) ⟨mkH base (A ++ [es]) l, gens, drawn, toks, os⟩ () ⟨mkH base (A ++ [es ++ entsR t 2 T]) l, gens, drawn, toks + T.length, os⟩
  | [], es, t, toks, _, _, _ => by
    rw [entsR, List.append_nil]
    exact det_for_nil
  | y :: T, es, t, toks, ha, hs, hl => by
    have hl' : es.length + (T.length + 1) < sizeLine := hl
    have ih := det_fill2 (f := f) hb hf T (es ++ [⟨y.1, .int y.1 t, .str y.2 (t + 1)⟩]) (t + 2) (toks + 1) (ha.step rfl) (fun z hz => hs z (.tail _ hz)) (by simp; omega)
    rw [List.append_assoc, show toks + 1 + T.length = toks + (T.length + 1) by omega] at ih
    refine det_le (det_for_cons (c := 10) (c' := 10 * T.length) (s' := ⟨mkH base (A ++ [es ++ [⟨y.1, .int y.1 t, .str y.2 (t + 1)⟩]]) l, gens, drawn, toks + 1, os⟩) ?_ ih) (by simp; omega)
    rw [hf]
    exact det_bind (c := 10) (c' := 0) (det_dictSet (hs y (.head _)).1 (hs y (.head _)).2 ha.new (by omega) hb) det_pure
theorem det_subShort (p : Pos) (hb : 11 ≤ base.size) {T : List (Int × Str)} (ha : Asc [] T) (hs : Small T) (h15 : T.length ≤ 15) :
    Det w (13 * T.length + 1) (subDict (T.map (pairOf p))) ⟨mkH base A l, gens, drawn, toks, os⟩ (base.size + A.length) ⟨mkH base (A ++ [entsR toks 2 T]) l, gens, drawn, toks + 3 * T.length, os⟩ := by
  unfold subDict
  refine det_le (det_bind (c := 1) (c' := 13 * T.length) (det_alloc _) ?_) (by omega)
  rw [mkH_size, show (Heap.push (mkH base A l) { cls := .type "dict", data := .dict #[] }) = mkH base (A ++ [[]]) l from mkH_push]
  refine det_bind (c := 13 * T.length) (c' := 0) (a := ()) ?_ det_pure
  refine det_holding ?_
  rw [if_pos (by simpa using h15)]
  refine det_le (det_bind (c := 3 * T.length) (c' := 10 * T.length) (det_evalPairs p T toks) ?_) (by omega)
  refine det_holding ?_
  rw [show toks + 3 * T.length = toks + 2 * T.length + T.length by omega]
  have sl : sizeLine = 2 ^ 24 := rfl
  exact det_bind (c := 10 * T.length) (c' := 0) (a := PUnit.unit) (det_fill2 hb (fun k v u => rfl) T [] toks (toks + 2 * T.length) ha hs (by simp; omega)) det_pure
end
end
end Mine
end
section
open PySem PySem.W PyProof.Rows
set_option maxRecDepth 100000
set_option maxHeartbeats 1000000
namespace Mine
noncomputable section
variable {w : World} {gens : Array GenState} {drawn : Drawn} {toks : Nat} {os : OsState} {A S : List (List DictEntry)} {base : Array Obj} {l : Life} {main sub : List DictEntry}
theorem det_typeOf {heap : Heap} {a : Addr} {es : List DictEntry} {n : Nat} (h : heap.get? a = some (dictOb es n)) : Det w 1 (typeOf (.ref a)) ⟨heap, gens, drawn, toks, os⟩ (.type "dict") ⟨heap, gens, drawn, toks, os⟩ := by
  unfold typeOf
  exact det_bind (c := 1) (c' := 0) (det_load h) det_pure
/-- every entry's key is an int that is its hash -/
noncomputable def IntKeyed (es : List DictEntry) : Prop := ∀ e ∈ es, ∃ t, e.key = .int e.hash t
theorem entsR_int : ∀ {t d : Nat} {T : List (Int × Str)}, IntKeyed (entsR t d T)
  | _, _, [] => fun e he => (nomatch he)
  | t, d, (k, x) :: T => fun e he => by
    rcases List.mem_cons.mp he with rfl | he
    · exact ⟨t, rfl⟩
    · exact entsR_int e he
theorem det_mergeLoop {f : Nat → PUnit → Sem (ForInStep PUnit)} (hb : 11 ≤ base.size) (hi : IntKeyed sub)
    (hf : ∀ i u e, sub[i]? = some e → ∀ main', main'.length < sizeLine → (∀ e' ∈ main', e'.hash ≠ e.hash) →
      Det w 6 (f i u) ⟨mkH base (main' :: (S ++ [sub])) l, gens, drawn, toks, os⟩ (.yield ()) ⟨mkH base ((main' ++ [e]) :: (S ++ [sub])) l, gens, drawn, toks, os⟩) :
    ∀ (m i : Nat) (main : List DictEntry), i + m = sub.length → ((main ++ sub.drop i).map (·.hash)).Pairwise (· < ·) → main.length + m < sizeLine →
    Det w (6 * m) (forIn (List.range' i m) () f) ⟨mkH base (main :: (S ++ [sub])) l, gens, drawn, toks, os⟩ () ⟨mkH base ((main ++ sub.drop i) :: (S ++ [sub])) l, gens, drawn, toks, os⟩
  | 0, i, main, h, hp, hl => by
    rw [List.drop_eq_nil_of_le (by omega), List.append_nil]
    exact det_for_nil
  | m + 1, i, main, h, hp, hl => by
    obtain ⟨e, he⟩ : ∃ e, sub[i]? = some e := ⟨_, List.getElem?_eq_getElem (by omega)⟩
    have hd : sub.drop i = e :: sub.drop (i + 1) := by
      obtain ⟨hlt, rfl⟩ := List.getElem?_eq_some_iff.mp he
      exact List.drop_eq_getElem_cons hlt
    have ih := det_mergeLoop hb hi hf m (i + 1) (main ++ [e]) (by omega) (by rw [List.append_assoc]; rw [hd] at hp; exact hp) (by simp; omega)
    rw [List.append_assoc] at ih
    rw [hd]
    rw [List.range'_succ]
    refine det_le (det_for_cons (c := 6) (c' := 6 * m) (hf i () e he main (by omega) ?_) ih) (by omega)
    intro e' he' q
    rw [hd, List.map_append, List.pairwise_append] at hp
    have := hp.2.2 e'.hash (List.mem_map_of_mem he') e.hash (by simp)
    omega
theorem det_merge (hb : 11 ≤ base.size) (hi : IntKeyed sub) (hn : main ≠ []) (hp : ((main ++ sub).map (·.hash)).Pairwise (· < ·)) (hl : main.length + sub.length < sizeLine) (hz : (base.size + (S.length + 1) == sysModules) = false) :
    Det w (6 * sub.length + 10) (mergeMapping (base.size + 0) (.ref (base.size + (S.length + 1))) false) ⟨mkH base (main :: (S ++ [sub])) l, gens, drawn, toks, os⟩ () ⟨mkH base ((main ++ sub) :: (S ++ [sub])) l, gens, drawn, toks, os⟩ := by
  have gd : ∀ main', (mkH base (main' :: (S ++ [sub])) l).get? (base.size + 0) = some (dO main') := fun main' => mkH_get (A := []) (B := S ++ [sub])
  have ga : ∀ main', (mkH base (main' :: (S ++ [sub])) l).get? (base.size + (S.length + 1)) = some (dO sub) := fun main' => mkH_get (A := main' :: S) (B := [])
  unfold mergeMapping
  refine det_le (det_bind (c := 1) (c' := 6 * sub.length + 5) (a := true) (s' := ⟨mkH base (main :: (S ++ [sub])) l, gens, drawn, toks, os⟩) ?_ ?_) (by omega)
  · unfold isInstance
    refine det_bind (c := 1) (c' := 0) (det_typeOf (ga main)) ?_
    rw [dict_sub]
    exact det_pure
  · dsimp only
    rw [if_pos rfl]
    refine det_le (det_bind (c := 1) (c' := 6 * sub.length + 4) (a := some (.builtin "dict.__iter__")) (s' := ⟨mkH base (main :: (S ++ [sub])) l, gens, drawn, toks, os⟩) ?_ ?_) (by omega)
    · unfold specialOf
      refine det_bind (c := 1) (c' := 0) (det_typeOf (ga main)) ?_
      rw [dict_iter]
      exact det_pure
    rw [show ((some (Value.builtin "dict.__iter__") == some (Value.builtin "dict.__iter__"))) = true by simp]
    refine det_le (det_bind (c := 0) (c' := 6 * sub.length + 4) (a := true) det_pure ?_) (by omega)
    dsimp only
    rw [if_neg (by rw [hz]; decide)]
    refine det_le (det_bind (c := 1) (c' := 6 * sub.length + 3) (det_entries (gd main)) ?_) (by omega)
    have he : main.toArray.isEmpty = false := by
      cases main with
      | nil => exact absurd rfl hn
      | cons _ _ => rfl
    rw [he, if_neg (by decide)]
    refine det_le (det_bind (c := 1) (c' := 6 * sub.length + 2) (det_entries (ga main)) ?_) (by omega)
    refine det_le (det_bind (c := 1) (c' := 6 * sub.length) (det_epoch (ga main)) ?_) (by omega)
    rw [List.size_toArray, List.range_eq_range']
    refine det_bind (c := 6 * sub.length) (c' := 0) (a := PUnit.unit) ?_ det_pure
    refine det_mergeLoop hb hi ?_ sub.length 0 main (by omega) (by simpa using hp) hl
    intro i u e he main' hl' hne
    refine det_bind (c := 1) (c' := 5) (det_entries (ga main')) ?_
    rw [List.getElem?_toArray, he]
    dsimp only
    obtain ⟨t, ht⟩ := hi e (List.mem_of_getElem? he)
    refine det_bind (c := 4) (c' := 1) (a := ()) (s' := ⟨mkH base ((main' ++ [e]) :: (S ++ [sub])) l, gens, drawn, toks, os⟩) ?_ ?_
    · refine det_holding ?_
      rw [if_neg (by decide), ht]
      have := det_put (w := w) (A := []) (B := S ++ [sub]) (base := base) (l := l) (es := main') (k := e.hash) (t := t) (v := e.val) (gens := gens) (drawn := drawn) (toks := toks) (os := os) hne hl' hb
      have e2 : (⟨e.hash, .int e.hash t, e.val⟩ : DictEntry) = e := by
        cases e
        simp only at ht
        rw [ht]
      rw [e2] at this
      exact this
    · refine det_bind (c := 1) (c' := 0) (det_epoch (ga (main' ++ [e]))) ?_
      rw [if_neg (by simp)]
      exact det_pure
end
end Mine
end
section
open PySem PySem.W PyProof.Rows
set_option maxRecDepth 100000
set_option maxHeartbeats 1000000
namespace Mine
noncomputable section
variable {w : World} {gens : Array GenState} {drawn : Drawn} {toks : Nat} {os : OsState} {A S : List (List DictEntry)} {base : Array Obj} {l : Life} {main sub : List DictEntry}
noncomputable def itemOf (p : Pos) (y : Int × Str) : Option (Sem Value) × Sem Value := (some (mkInt y.1), do let x ← mkText y.2; standAt p; pure x)
noncomputable def flushQ (run : List (Sem Value × Sem Value)) (main : Option Addr) : Sem (Option Addr) :=
  if run.isEmpty = true then pure main
  else match main with
    | none => do
      let d ← subDict run
      pure (some d)
    | some d => do
      let sub ← holding [Value.ref d] (subDict run)
      (holding [Value.ref d, Value.ref sub] (mergeMapping d (Value.ref sub) false)).onRaise fun x => do
        let _ ← holding [Value.ref d, x] (runValue (Code.builtin "proto.let_go" {}))
        pure ()
      pure (some d)
abbrev RunL := List (Sem Value × Sem Value)
abbrev FQ := (Option (Sem Value) × Sem Value) → Option Addr × RunL → Sem (ForInStep (Option Addr × RunL))
noncomputable def BodyQ (p : Pos) (f : FQ) : Prop := ∀ (y : Int × Str) (main : Option Addr) (run : RunL), f (itemOf p y) (main, run) =
  if ((run ++ [pairOf p y]).length == 17) = true then (do let main ← flushQ (run ++ [pairOf p y]) main; pure (.yield (main, []))) else pure (.yield (main, run ++ [pairOf p y]))
theorem push_run {p : Pos} {f : FQ} (hf : BodyQ p f) {c : Nat} {s s' : Shared} {r : Option Addr × RunL} {R : List (Option (Sem Value) × Sem Value)} {mn : Option Addr} : ∀ (T : List (Int × Str)) (run : RunL), run.length + T.length < 17 →
    Det w c (forIn R (mn, run ++ T.map (pairOf p)) f) s r s' → Det w c (forIn (T.map (itemOf p) ++ R) (mn, run) f) s r s'
  | [], run, _, h => by rw [List.map_nil, List.append_nil] at h; exact h
  | y :: T, run, hl, h => by
    have hl' : run.length + (T.length + 1) < 17 := hl
    have ih := push_run hf T (run ++ [pairOf p y]) (by simp; omega) (by rw [List.append_assoc]; exact h)
    rw [List.map_cons, List.cons_append]
    refine det_le (det_for_cons (c := 0) (c' := c) (s' := s) ?_ ih) (by omega)
    rw [hf, if_neg (by simp; omega)]
    exact det_pure
theorem chunkQ {p : Pos} {f : FQ} (hf : BodyQ p f) {c cf : Nat} {s s₁ s' : Shared} {r : Option Addr × RunL} {R : List (Option (Sem Value) × Sem Value)} {mn m1 : Option Addr} {T : List (Int × Str)} (hT : T.length = 17)
    (h1 : Det w cf (flushQ (T.map (pairOf p)) mn) s m1 s₁) (h : Det w c (forIn R (m1, []) f) s₁ r s') : Det w (cf + c) (forIn (T.map (itemOf p) ++ R) (mn, []) f) s r s' := by
  obtain ⟨T', y, rfl⟩ : ∃ T' y, T = T' ++ [y] := ⟨T.dropLast, T.getLast (by intro e; rw [e] at hT; cases hT), (List.dropLast_concat_getLast _).symm⟩
  have hT' : T'.length = 16 := by simpa using hT
  rw [List.map_append, List.append_assoc]
  refine push_run hf T' [] (by simp; omega) ?_
  rw [List.map_cons, List.map_nil, List.cons_append, List.nil_append]
  refine det_for_cons (c := cf) (c' := c) ?_ h
  rw [hf, if_pos (by simp; omega)]
  rw [List.map_append, List.map_cons, List.map_nil] at h1
  exact det_bind (c := cf) (c' := 0) h1 det_pure
theorem entsR_hash : ∀ {t d : Nat} {T : List (Int × Str)}, (entsR t d T).map (·.hash) = T.map (·.1)
  | _, _, [] => rfl
  | t, d, (k, x) :: T => by rw [entsR, List.map_cons, List.map_cons, entsR_hash]
theorem entsR_len : ∀ {t d : Nat} {T : List (Int × Str)}, (entsR t d T).length = T.length
  | _, _, [] => rfl
  | t, d, (k, x) :: T => by rw [entsR, List.length_cons, List.length_cons, entsR_len]
theorem asc_nil {T : List (Int × Str)} (h : (T.map (·.1)).Pairwise (· < ·)) : Asc [] T := h
theorem det_flush1 (p : Pos) (hb : 11 ≤ base.size) {T : List (Int × Str)} (hT : T.length = 17) (ha : Asc [] T) (hs : Small T) :
    Det w 223 (flushQ (T.map (pairOf p)) none) ⟨mkH base [] l, gens, drawn, toks, os⟩ (some base.size) ⟨mkH base [entsR toks 3 T] l, gens, drawn, toks + 51, os⟩ := by
  unfold flushQ
  rw [if_neg (by cases T; cases hT; simp)]
  dsimp only
  have sl : sizeLine = 2 ^ 24 := rfl
  have := det_subLong (w := w) (A := []) (l := l) (gens := gens) (drawn := drawn) (toks := toks) (os := os) p hb ha hs (by omega) (by omega)
  rw [hT] at this
  exact det_bind (c := 223) (c' := 0) this det_pure
theorem det_flushN (p : Pos) (hb : 11 ≤ base.size) (hz : sysModules < base.size) {T : List (Int × Str)} {d c : Nat} (hn : main ≠ []) (hl : main.length + T.length < sizeLine) (hT : T ≠ []) (ha : Asc main T)
    (h : Det w c (subDict (T.map (pairOf p))) ⟨mkH base (main :: S) l, gens, drawn, toks, os⟩ (base.size + (main :: S).length) ⟨mkH base ((main :: S) ++ [entsR toks d T]) l, gens, drawn, toks + 3 * T.length, os⟩) :
    Det w (c + (6 * T.length + 10)) (flushQ (T.map (pairOf p)) (some base.size)) ⟨mkH base (main :: S) l, gens, drawn, toks, os⟩ (some base.size) ⟨mkH base ((main ++ entsR toks d T) :: (S ++ [entsR toks d T])) l, gens, drawn, toks + 3 * T.length, os⟩ := by
  unfold flushQ
  rw [if_neg (by cases T; exact absurd rfl hT; simp)]
  dsimp only
  refine det_bind (c := c) (c' := 6 * T.length + 10) (det_holding h) ?_
  refine det_bind (c := 6 * T.length + 10) (c' := 0) (a := ()) (det_onRaise (det_holding ?_)) det_pure
  have := det_merge (w := w) (S := S) (l := l) (main := main) (sub := entsR toks d T) (gens := gens) (drawn := drawn) (toks := toks + 3 * T.length) (os := os) hb entsR_int hn
    (by rw [List.map_append, entsR_hash]; exact ha) (by rw [entsR_len]; exact hl) (beq_eq_false_iff_ne.mpr (Nat.ne_of_gt (Nat.lt_of_lt_of_le hz (Nat.le_add_right _ _))))
  rw [entsR_len] at this
  exact this
noncomputable def allE (t : Nat) : Nat → List (Int × Str) → List DictEntry
  | 0, R => entsR t 2 R
  | m + 1, R => entsR t 3 (R.take 17) ++ allE (t + 51) m (R.drop 17)
noncomputable def allS (t : Nat) : Nat → List (Int × Str) → List (List DictEntry)
  | 0, R => [entsR t 2 R]
  | m + 1, R => entsR t 3 (R.take 17) :: allS (t + 51) m (R.drop 17)
theorem det_chunks (p : Pos) {f : FQ} (hf : BodyQ p f) (hb : 11 ≤ base.size) (hz : sysModules < base.size) : ∀ (m : Nat) (R : List (Int × Str)) (main : List DictEntry) (S : List (List DictEntry)) (toks : Nat), R.length = 17 * m + 4 → main ≠ [] → Asc main R → Small R → main.length + R.length < sizeLine →
    ∃ st s₁ c₁ c₂, c₁ + c₂ ≤ 335 * m + 87 ∧ Det w c₁ (forIn (R.map (itemOf p)) (some base.size, []) f) ⟨mkH base (main :: S) l, gens, drawn, toks, os⟩ st s₁ ∧
      Det w c₂ (flushQ st.2 st.1) s₁ (some base.size) ⟨mkH base ((main ++ allE toks m R) :: (S ++ allS toks m R)) l, gens, drawn, toks + 51 * m + 12, os⟩
  | 0, R, main, S, toks, hR, hn, ha, hs, hl => by
    refine ⟨(some base.size, R.map (pairOf p)), ⟨mkH base (main :: S) l, gens, drawn, toks, os⟩, 0, 87, by omega, ?_, ?_⟩
    · have := push_run (w := w) (c := 0) (s := ⟨mkH base (main :: S) l, gens, drawn, toks, os⟩) (mn := some base.size) (R := []) hf R [] (by simp; omega) det_for_nil
      rwa [List.append_nil] at this
    · have haR : Asc [] R := by
        unfold Asc at ha ⊢
        rw [List.pairwise_append] at ha
        exact ha.2.1
      have h1 := det_subShort (w := w) (A := main :: S) (l := l) (gens := gens) (drawn := drawn) (toks := toks) (os := os) p hb haR hs (by omega)
      have := det_flushN p hb hz hn hl (by intro e; rw [e] at hR; simp at hR) ha h1
      rw [hR] at this
      exact this
  | m + 1, R, main, S, toks, hR, hn, ha, hs, hl => by
    have hT : (R.take 17).length = 17 := by rw [List.length_take]; omega
    have hsp : R = R.take 17 ++ R.drop 17 := (List.take_append_drop 17 R).symm
    have ha2 : ((main.map (·.hash) ++ (R.take 17).map (·.1)) ++ (R.drop 17).map (·.1)).Pairwise (· < ·) := by
      rw [List.append_assoc, ← List.map_append, ← hsp]; exact ha
    have ha3 : Asc main (R.take 17) := (List.pairwise_append.mp ha2).1
    have haT : Asc [] (R.take 17) := (List.pairwise_append.mp ha3).2.1
    have ha4 : Asc (main ++ entsR toks 3 (R.take 17)) (R.drop 17) := by
      unfold Asc
      rw [List.map_append, entsR_hash]
      exact ha2
    have sl : sizeLine = 2 ^ 24 := rfl
    have h1 := det_subLong (w := w) (A := main :: S) (l := l) (gens := gens) (drawn := drawn) (toks := toks) (os := os) p hb haT (fun y hy => hs y (List.mem_of_mem_take hy)) (by omega) (by omega)
    have h2 := det_flushN p hb hz hn (by rw [hT]; omega) (by intro e; rw [e] at hT; cases hT) ha3 h1
    have ih := det_chunks p hf hb hz m (R.drop 17) (main ++ entsR toks 3 (R.take 17)) (S ++ [entsR toks 3 (R.take 17)]) (toks + 51) (by rw [List.length_drop]; omega) (by intro e; exact hn (List.append_eq_nil_iff.mp e).1) ha4 (fun y hy => hs y (List.mem_of_mem_drop hy)) (by rw [List.length_append, entsR_len, hT, List.length_drop]; omega)
    rw [hT] at h2
    obtain ⟨st, s₁, c₁, c₂, hc, i1, i2⟩ := ih
    have k := chunkQ hf hT h2 i1
    rw [← List.map_append, ← hsp] at k
    rw [List.append_assoc, List.append_assoc, List.singleton_append, show toks + 51 + 51 * m + 12 = toks + 51 * (m + 1) + 12 by omega] at i2
    exact ⟨st, s₁, _, c₂, by omega, k, i2⟩
end
end Mine
end
section
open PySem PySem.W PyProof.Rows
set_option maxRecDepth 100000
set_option maxHeartbeats 4000000
namespace Mine
noncomputable section
noncomputable def T9x (P : Params) : BT := (.node (boot_o_0 P) (.node (boot_o_1 P) (.node (o3v9 P) (.node (boot_o_7 P) (.node (o15 P) (.node (o31 P) (.node (o63 P) .nil .nil) (.node (o95 P) .nil .nil)) (.node (o47 P) (.node (o79 P) .nil .nil) .nil)) (.node (o23 P) (.node (o39 P) (.node (o71 P) .nil .nil) .nil) (.node (o55 P) (.node (o87 P) .nil .nil) .nil))) (.node (o11 P) (.node (o19 P) (.node (o35 P) (.node (o67 P) .nil .nil) (.node (o99 P) .nil .nil)) (.node (o51 P) (.node (o83 P) .nil .nil) .nil)) (.node (o27 P) (.node (o43 P) (.node (o75 P) .nil .nil) .nil) (.node (o59 P) (.node (o91 P) .nil .nil) .nil)))) (.node (boot_o_5 P) (.node (boot_o_9 P) (.node (o17 P) (.node (o33 P) (.node (o65 P) .nil .nil) (.node (o97 P) .nil .nil)) (.node (o49 P) (.node (o81 P) .nil .nil) .nil)) (.node (o25 P) (.node (o41 P) (.node (o73 P) .nil .nil) .nil) (.node (o57 P) (.node (o89 P) .nil .nil) .nil))) (.node (o13 P) (.node (o21 P) (.node (o37 P) (.node (o69 P) .nil .nil) .nil) (.node (o53 P) (.node (o85 P) .nil .nil) .nil)) (.node (o29 P) (.node (o45 P) (.node (o77 P) .nil .nil) .nil) (.node (o61 P) (.node (o93 P) .nil .nil) .nil))))) (.node (boot_o_2 P) (.node (boot_o_4 P) (.node (boot_o_8 P) (.node (o16 P) (.node (o32 P) (.node (o64 P) .nil .nil) (.node (o96 P) .nil .nil)) (.node (o48 P) (.node (o80 P) .nil .nil) .nil)) (.node (o24 P) (.node (o40 P) (.node (o72 P) .nil .nil) .nil) (.node (o56 P) (.node (o88 P) .nil .nil) .nil))) (.node (o12v9 P) (.node (o20 P) (.node (o36 P) (.node (o68 P) .nil .nil) .nil) (.node (o52 P) (.node (o84 P) .nil .nil) .nil)) (.node (o28 P) (.node (o44 P) (.node (o76 P) .nil .nil) .nil) (.node (o60 P) (.node (o92 P) .nil .nil) .nil)))) (.node (boot_o_6 P) (.node (boot_o_10 P) (.node (o18 P) (.node (o34 P) (.node (o66 P) .nil .nil) (.node (o98 P) .nil .nil)) (.node (o50 P) (.node (o82 P) .nil .nil) .nil)) (.node (o26 P) (.node (o42 P) (.node (o74 P) .nil .nil) .nil) (.node (o58 P) (.node (o90 P) .nil .nil) .nil))) (.node (o14 P) (.node (o22 P) (.node (o38 P) (.node (o70 P) .nil .nil) .nil) (.node (o54 P) (.node (o86 P) .nil .nil) .nil)) (.node (o30 P) (.node (o46 P) (.node (o78 P) .nil .nil) .nil) (.node (o62 P) (.node (o94 P) .nil .nil) .nil))))))
noncomputable def S9x (w : World) (os : OsState) : SharedT := ⟨T9x w.params, nat_lit 100, {}, #[], {}, nat_lit 2270, os⟩
structure Asg where
  x : Str
  p1 : Pos
  ks : List (Option Expr)
  vs : List Expr
  p2 : Pos
  p3 : Pos
noncomputable def asgOf : Stmt → Asg
  | .Assign [.Name x p1] (.Dict ks vs p2) p3 => ⟨x, p1, ks, vs, p2, p3⟩
  | _ => ⟨⟨#[]⟩, qZ, [], [], qZ, qZ⟩
noncomputable def asg : Asg := match pw.main.body[10]? with | some st => asgOf st | none => ⟨⟨#[]⟩, qZ, [], [], qZ, qZ⟩
abbrev dictE : Expr := .Dict asg.ks asg.vs asg.p2
theorem st10 : stsR 10 1 = [.Assign [.Name asg.x asg.p1] dictE asg.p3] := by kernel_rfl
theorem items : (evalEachOpt asg.ks envT).zip ((evalEach asg.vs envT).map fun v => (do let x ← v; standAt asg.p2; pure x : Sem Value)) = tabA.map (itemOf asg.p2) := by kernel_rfl
noncomputable def chk : Int → List (Int × Str) → Bool
  | _, [] => true
  | b, y :: T => decide (b < y.1) && (decide (y.1 < 2 ^ 60) && chk y.1 T)
theorem chk_spec : ∀ {b : Int} {T : List (Int × Str)}, chk b T = true → (∀ y ∈ T, b < y.1 ∧ y.1 < 2 ^ 60) ∧ (T.map (·.1)).Pairwise (· < ·)
  | b, [], _ => ⟨fun _ h => (nomatch h), .nil⟩
  | b, y :: T, h => by
    simp only [chk, Bool.and_eq_true, decide_eq_true_eq] at h
    obtain ⟨h1, h2, h3⟩ := h
    obtain ⟨i1, i2⟩ := chk_spec h3
    refine ⟨fun z hz => ?_, ?_⟩
    · rcases List.mem_cons.mp hz with rfl | hz
      · exact ⟨h1, h2⟩
      · exact ⟨Int.lt_trans h1 (i1 z hz).1, (i1 z hz).2⟩
    · rw [List.map_cons, List.pairwise_cons]
      refine ⟨fun k hk => ?_, i2⟩
      obtain ⟨z, hz, rfl⟩ := List.mem_map.mp hk
      exact (i1 z hz).1
theorem tab_chk : chk 0 tabA = true := by kernel_rfl
theorem tab_len : tabA.length = 650 := by kernel_rfl
theorem tab_small : Small tabA := fun y hy => let h := (chk_spec tab_chk).1 y hy; ⟨Int.le_of_lt h.1, h.2⟩
theorem tab_asc : (tabA.map (·.1)).Pairwise (· < ·) := (chk_spec tab_chk).2
variable {w : World} {gens : Array GenState} {drawn : Drawn} {toks : Nat} {os : OsState} {base : Array Obj} {l : Life}
theorem det_disp0 (p : Pos) {f : FQ} (hf : BodyQ p f) (hb : 11 ≤ base.size) (hz : sysModules < base.size) : Det w 12800 (forIn (tabA.map (itemOf p)) (none, []) f >>= fun st => flushQ st.2 st.1 >>= fun o => match o with | some d => pure (Value.ref d) | none => newDict) ⟨mkH base [] l, gens, drawn, toks, os⟩ (.ref base.size)
    ⟨mkH base ((entsR toks 3 (tabA.take 17) ++ allE (toks + 51) 37 (tabA.drop 17)) :: allS (toks + 51) 37 (tabA.drop 17)) l, gens, drawn, toks + 1950, os⟩ := by
  have hT : (tabA.take 17).length = 17 := by rw [List.length_take, tab_len]; rfl
  have hsp : tabA = tabA.take 17 ++ tabA.drop 17 := (List.take_append_drop 17 tabA).symm
  have ha2 : ((tabA.take 17).map (·.1) ++ (tabA.drop 17).map (·.1)).Pairwise (· < ·) := by rw [← List.map_append, ← hsp]; exact tab_asc
  have sl : sizeLine = 2 ^ 24 := rfl
  have h1 := det_flush1 (w := w) (l := l) (gens := gens) (drawn := drawn) (toks := toks) (os := os) p hb hT (List.pairwise_append.mp ha2).1 (fun y hy => tab_small y (List.mem_of_mem_take hy))
  obtain ⟨st, s₁, c₁, c₂, hc, i1, i2⟩ := det_chunks (w := w) (l := l) (gens := gens) (drawn := drawn) (os := os) p hf hb hz 37 (tabA.drop 17) (entsR toks 3 (tabA.take 17)) [] (toks + 51) (by rw [List.length_drop, tab_len]) (by intro e; have := congrArg List.length e; rw [entsR_len, hT] at this; cases this)
    (by unfold Asc; rw [entsR_hash]; exact ha2) (fun y hy => tab_small y (List.mem_of_mem_drop hy)) (by rw [entsR_len, hT, List.length_drop, tab_len]; decide)
  have k := chunkQ hf hT h1 i1
  rw [← List.map_append, ← hsp] at k
  refine det_le (det_bind (c := 223 + c₁) (c' := c₂) k ?_) (by omega)
  exact det_bind (c := c₂) (c' := 0) i2 det_pure
theorem det_disp (p : Pos) (hb : 11 ≤ base.size) (hz : sysModules < base.size) : Det w 12800 (dictDisplay (tabA.map (itemOf p))) ⟨mkH base [] l, gens, drawn, toks, os⟩ (.ref base.size)
    ⟨mkH base ((entsR toks 3 (tabA.take 17) ++ allE (toks + 51) 37 (tabA.drop 17)) :: allS (toks + 51) 37 (tabA.drop 17)) l, gens, drawn, toks + 1950, os⟩ := by
  unfold dictDisplay
  exact det_disp0 p (fun y main run => rfl) hb hz
end
end Mine
end
section
open PySem PySem.W PyProof.Rows
set_option maxRecDepth 100000
set_option maxHeartbeats 4000000
namespace Mine
noncomputable section
theorem rest10 : ∀ (w : World) (os : OsState) (q : Pos) (K : Flow → Sem Fin) (H : Value → Sem Fin) (gd : Bool → Bool) (lv : List Value → List Value),
    segGoT treeTable pw w 11 annT 1 7 (S9x w os) ⟨(do standAt asg.p1; bindName envT asg.x (.ref 61); pure .next : Sem Flow).wrap K H gd lv, cT, q, BB⟩ = some (S10 w os, ⟨K .next, cT, q10, BB⟩) := fun w os q K H gd lv => by kernel_rfl
noncomputable def base9 (P : Params) : Array Obj := (absHeap (T9 P) 61 {}).objs
theorem base9_size (P : Params) : (base9 P).size = 61 := absHeap_size _ _ _
theorem heap9 (P : Params) : absHeap (T9 P) 61 {} = mkH (base9 P) [] {} := by
  show Heap.mk _ _ = Heap.mk _ _
  rw [show base9 P ++ dOs [] = base9 P from Array.append_empty]
  rfl
theorem heap10 : ∀ P, mkH (base9 P) ((entsR 320 3 (tabA.take 17) ++ allE (320 + 51) 37 (tabA.drop 17)) :: allS (320 + 51) 37 (tabA.drop 17)) {} = absHeap (T9x P) 100 {} := fun P => by kernel_rfl
theorem det10 (w : World) (os : OsState) : Det w 12820 (execs (stsR 10 1) envT) (S9 w os).abs .next (S10 w os).abs := by
  rw [st10, execs_cons, exec_Assign_Name _ _ _ _ _ rfl]
  have hrest : Det w 7 (do standAt asg.p1; bindName envT asg.x (.ref 61); pure .next : Sem Flow) (S9x w os).abs .next (S10 w os).abs := ⟨7, Nat.le_refl _, fun q K H gd lv => ⟨q10, segGo_of (rest10 w os q K H gd lv)⟩⟩
  have hd : Det w 12800 (dictDisplay (tabA.map (itemOf asg.p2))) (S9 w os).abs (.ref 61) (S9x w os).abs := by
    have := det_disp (w := w) (base := base9 w.params) (l := {}) (gens := #[]) (drawn := {}) (toks := 320) (os := os) asg.p2 (by rw [base9_size]; decide) (by rw [base9_size]; decide)
    rw [heap10, base9_size, ← heap9] at this
    exact this
  refine det_le (det_bind (c := 12809) (c' := 0) (a := Flow.next) (s' := (S10 w os).abs) ?_ det_pure) (by omega)
  refine det_le (det_bind (c := 1) (c' := 12808) (det_at _) ?_) (by omega)
  refine det_le (det_bind (c := 12801) (c' := 7) (a := .ref 61) (s' := (S9x w os).abs) ?_ hrest) (by omega)
  show Det w 12801 (do standAt asg.p2; dictDisplay ((evalEachOpt asg.ks envT).zip ((evalEach asg.vs envT).map fun v => (do let x ← v; standAt asg.p2; pure x : Sem Value)))) _ _ _
  rw [items]
  exact det_bind (c := 1) (c' := 12800) (det_at _) hd
theorem segRun_go {tb : String → Option Builtin} {p : Program} {w : World} {n₀ : Nat} {ann : Option Value} {b : Nat} {n : Nat} {s s' : Shared} {t t' : Thread} {f : Flow} (h : segGo tb p w n₀ ann b n s t = some (s', t')) (e : endAt b t' = some f) :
    segRun tb p w n₀ ann b (n + 1) s t = some (f, s', t'.code, t'.pos) := by
  refine seg_go h ?_
  unfold segRun
  rw [e]
theorem run10 (w : World) (os : OsState) : ∃ n q', n ≤ 12821 ∧ segRun treeTable pw w 11 annT 1 n (S9 w os).abs (piecesOf (stsR 10 1) envT cT q9 [topFrame qZ]) = some (.next, (S10 w os).abs, cT, q') := by
  obtain ⟨n, hn, h⟩ := det10 w os
  obtain ⟨q', h⟩ := h q9 doneF deadEnd id id
  exact ⟨n + 1, q', by omega, segRun_go h rfl⟩
end
end Mine
end
section
open PySem PySem.W PyProof.Rows
set_option maxRecDepth 100000
set_option maxHeartbeats 0
namespace Mine
noncomputable section
noncomputable def H22 (P : Params) : Heap := ⟨Array.mk (boot_o_0 P :: boot_o_1 P :: boot_o_2 P :: o3v22 P :: boot_o_4 P :: boot_o_5 P :: boot_o_6 P :: boot_o_7 P :: boot_o_8 P :: boot_o_9 P :: boot_o_10 P :: o11 P :: o12v22 P :: o13 P :: o14 P :: o15 P :: o16 P :: o17 P :: o18 P :: o19 P :: o20 P :: o21 P :: o22 P :: o23 P :: o24 P :: o25 P :: o26 P :: o27 P :: o28 P :: o29 P :: o30 P :: o31 P :: o32 P :: o33 P :: o34 P :: o35 P :: o36 P :: o37 P :: o38 P :: o39 P :: o40 P :: o41 P :: o42 P :: o43 P :: o44 P :: o45 P :: o46 P :: o47 P :: o48 P :: o49 P :: o50 P :: o51 P :: o52 P :: o53 P :: o54 P :: o55 P :: o56 P :: o57 P :: o58 P :: o59 P :: o60 P :: o61 P :: o62 P :: o63 P :: o64 P :: o65 P :: o66 P :: o67 P :: o68 P :: o69 P :: o70 P :: o71 P :: o72 P :: o73 P :: o74 P :: o75 P :: o76 P :: o77 P :: o78 P :: o79 P :: o80 P :: o81 P :: o82 P :: o83 P :: o84 P :: o85 P :: o86 P :: o87 P :: o88 P :: o89 P :: o90 P :: o91 P :: o92 P :: o93 P :: o94 P :: o95 P :: o96 P :: o97 P :: o98 P :: o99 P :: o100 P :: o101 P :: o102 P :: o103 P :: o104 P :: o105 P :: o106 P :: o107 P :: o108 P :: o109 P :: o110 P :: o111 P :: o112 P :: o113 P :: o114 P :: o115 P :: o116 P :: o117 P :: o118 P :: o119 P :: o120 P :: o121 P :: o122 P :: o123 P :: o124 P :: o125 P :: o126 P :: o127 P :: o128 P :: o129 P :: o130 P :: o131 P :: o132 P :: o133 P :: o134 P :: o135 P :: o136 P :: o137 P :: o138 P :: o139 P :: o140 P :: o141 P :: o142 P :: o143 P :: o144 P :: o145 P :: o146 P :: o147 P :: o148 P :: o149 P :: o150 P :: o151 P :: o152 P :: o153 P :: o154 P :: o155 P :: o156 P :: o157 P :: o158 P :: o159 P :: o160 P :: o161 P :: o162 P :: o163 P :: o164 P :: []), {}⟩
theorem h22 : ∀ P, absHeap (T22 P) 165 {} = H22 P := fun P => by kernel_rfl
theorem size0 : ∀ w : World, ((boot_heap w.params).isNs mainGlobals && (Array.mk [] : Array GenState).size == 0, (boot_heap w.params).objs.size, (boot_heap w.params).nsMap mainGlobals "__annotations__") = (true, 11, some (Value.ref 6)) := fun w => by kernel_rfl
abbrev fin (w : World) (os : OsState) : Shared := ⟨H22 w.params, Array.mk [], {}, 2373, os⟩
noncomputable def la (w : World) (os : OsState) := (staticsOk (importedModules pw.main.body) (boot_heap w.params) (H22 w.params) && namesBound pw (H22 w.params) && gensDone (fin w os) && laidKept (boot_heap w.params) (H22 w.params))
noncomputable def fla (w : World) (os : OsState) := (staticsOk (PySem.W.Fast.tw5923862056798008813 pw.main.body) (boot_heap w.params) (H22 w.params) && namesBound pw (H22 w.params) && gensDone (fin w os) && laidKept (boot_heap w.params) (H22 w.params))
theorem fla_eq : la = fla := congrArg (fun x (w : World) (os : OsState) => (staticsOk (x pw.main.body) (boot_heap w.params) (H22 w.params) && namesBound pw (H22 w.params) && gensDone (fin w os) && laidKept (boot_heap w.params) (H22 w.params))) PySem.W.Fast.te5923862056798008813
theorem looka : ∀ w, fla w = fun os => true := fun w => by kernel_rfl
abbrev XtQ : Shared → Bool := fun s => xlAt viewQ [] s && recOk (RowW.records (OpenRow.toRowW lawRow)) s
noncomputable def lb (w : World) (os : OsState) := openSeen viewQ looseQ (importedModules pw.main.body) XtQ true (fin w os)
noncomputable def flb (w : World) (os : OsState) := PySem.W.Fast.tw4187177175401517315 viewQ looseQ (PySem.W.Fast.tw5923862056798008813 pw.main.body) XtQ true (fin w os)
theorem flb_eq : lb = flb := by
  funext w os
  show openSeen viewQ looseQ (importedModules pw.main.body) XtQ true (fin w os) = PySem.W.Fast.tw4187177175401517315 viewQ looseQ (PySem.W.Fast.tw5923862056798008813 pw.main.body) XtQ true (fin w os)
  rw [PySem.W.Fast.te4187177175401517315, PySem.W.Fast.te5923862056798008813]
theorem blt22 : ∀ w : World, (H22 w.params).bltView = bltViewBooted := fun w => by kernel_rfl
theorem lookb0 : ∀ w, (fun os : OsState => (flb w os).1) = fun _ => expectedOf viewQ := fun w => by kernel_rfl
theorem lookb1 : ∀ w, (fun os : OsState => (flb w os).2.1) = fun _ => (H22 w.params).bltView := fun w => by kernel_rfl
noncomputable def nmB3 : Str := Str.ofString "b3_exceptions"
noncomputable def tabB3 : List (PyData × PyData) := (tabIntOf viewQ nmB3).getD []
theorem tab_b3 : tabIntOf viewQ nmB3 = some tabB3 := by kernel_rfl
theorem asc_b3 : ascD tabB3 = true := by kernel_rfl
theorem ent_b3 : entriesAreInt entB3.toArray.toList tabB3 = true := by kernel_rfl
theorem val_names : valNames viewQ = [Str.ofString "CHAR_MAX", Str.ofString "b1_set", nmB3] := by kernel_rfl
theorem at_b3 : ∀ w : World, (H22 w.params).nsMap mainGlobals nmB3 = some (.ref 61) := fun w => by kernel_rfl
theorem ob_b3 : ∀ w : World, (H22 w.params).get? 61 = some (dictOb entB3 650) := fun w => by kernel_rfl
noncomputable def tabOk1 (h : Heap) (x : Str) : Bool := (match tupIntsOf viewQ x with | some ns => h.tupIntsOk x ns | none => true) && (match tupStrsOf viewQ x with | some ss => h.tupStrsOk x ss | none => true) && (match tabIntOf viewQ x with | some D => h.tabIntOk x D | none => true)
theorem tok1 : ∀ w : World, tabOk1 (H22 w.params) (Str.ofString "CHAR_MAX") = true := fun w => by kernel_rfl
theorem tok2 : ∀ w : World, tabOk1 (H22 w.params) (Str.ofString "b1_set") = true := fun w => by kernel_rfl
theorem no_i : tupIntsOf viewQ nmB3 = none := by kernel_rfl
theorem no_s : tupStrsOf viewQ nmB3 = none := by kernel_rfl
theorem tok3 (w : World) : tabOk1 (H22 w.params) nmB3 = true := by
  unfold tabOk1
  simp only [no_i, no_s, tab_b3, Bool.true_and]
  exact tabIntOk_of (at_b3 w) (ob_b3 w) rfl rfl rfl rfl ent_b3 asc_b3 (by decide)
theorem tables22 (w : World) : tablesOk viewQ (H22 w.params) = true := by
  show (valNames viewQ).all (tabOk1 (H22 w.params)) = true
  rw [val_names]
  simp only [List.all_cons, List.all_nil, tok1, tok2, tok3, Bool.and_self]
theorem lookb2 (w : World) : (fun os : OsState => (flb w os).2.2.1) = fun _ => true := by
  funext os
  refine and7 ?zza ?zzb ?zzc ?zzd (by rw [← PySem.W.Fast.te10994771534591457954]; exact tables22 w) ?zzf ?zzg
  case zza => kernel_rfl
  case zzb => kernel_rfl
  case zzc => kernel_rfl
  case zzd => kernel_rfl
  case zzf => kernel_rfl
  case zzg => kernel_rfl
theorem lookb3 : ∀ w, (fun os : OsState => (flb w os).2.2.2.1) = fun _ => true := fun w => by kernel_rfl
theorem lookb4 : ∀ w, (fun os : OsState => (flb w os).2.2.2.2.1) = fun _ => pinGoodD (drecsOf viewQ) := fun w => by kernel_rfl
theorem lookb5 : ∀ w, (fun os : OsState => (flb w os).2.2.2.2.2.1) = fun _ => plainGoodE viewQ (looseW viewQ looseQ) := fun w => by kernel_rfl
theorem lookb6 : ∀ w, (fun os : OsState => (flb w os).2.2.2.2.2.2.1) = fun _ => plainGoodD viewQ looseQ := fun w => by kernel_rfl
theorem lookb7 : ∀ w, (fun os : OsState => (flb w os).2.2.2.2.2.2.2.1) = fun _ => wideGood viewQ := fun w => by kernel_rfl
theorem lookb8 : ∀ w, (fun os : OsState => (flb w os).2.2.2.2.2.2.2.2) = fun _ => clsGoodW viewQ looseQ := fun w => by kernel_rfl
theorem lookb : ∀ w, flb w = fun os => openGood viewQ looseQ := fun w => funext fun os => Prod.ext (congrFun (lookb0 w) os) (Prod.ext ((congrFun (lookb1 w) os).trans (blt22 w)) (Prod.ext (congrFun (lookb2 w) os) (Prod.ext (congrFun (lookb3 w) os) (Prod.ext (congrFun (lookb4 w) os) (Prod.ext (congrFun (lookb5 w) os) (Prod.ext (congrFun (lookb6 w) os) (Prod.ext (congrFun (lookb7 w) os) (congrFun (lookb8 w) os))))))))
theorem lookc : ∀ w os, (Hook.obs (kHook heapK heapA keysK)) (fin w os) = (Hook.val (kHook heapK heapA keysK)) w := fun w os => by kernel_rfl
end
end Mine
end
section
open PySem PySem.W PyProof.Rows
set_option maxRecDepth 100000
set_option maxHeartbeats 4000000
namespace Mine
noncomputable section
theorem pre0 : ∀ (w : World) (os : OsState), topGo treeTable pw w 11 annT 12 ⟨boot_heap w.params, Array.mk [], boot_drawn, boot_toks, os⟩ (topStub pw) = some ((SB w os).abs, ⟨denote treeTable cT, cT, qZ, BB⟩) := fun w os => by kernel_rfl
theorem blk0 : ∀ (w : World) (os : OsState), segRun treeTable pw w 11 annT 1 1 (SB w os).abs (blockOf pw.main.body envT cT qZ BB) = some (.next, (SB w os).abs, cT, qB) := fun w os => by kernel_rfl
noncomputable def l8 (w : World) (os : OsState) := segRunT treeTable pw w 11 annT 1 183 (SB w os) (piecesOf (stsR 0 8) envT cT qB BB)
theorem p8 : ∀ w os, l8 w os = some (.next, S7 w os, cT, q7) := fun w os => by kernel_rfl
noncomputable def l9 (w : World) (os : OsState) := segRunT treeTable pw w 11 annT 1 999 (S7 w os) (piecesOf (stsR 8 1) envT cT q7 BB)
noncomputable def fl9 (w : World) (os : OsState) := PySem.W.Fast.tw10110043849684766642 PySem.W.Fast.tw14364793385576792824 pw w 11 annT 1 999 (S7 w os) (piecesOf (stsR 8 1) envT cT q7 BB)
theorem fl9_eq : l9 = fl9 := by
  funext w os
  show segRunT treeTable pw w 11 annT 1 999 (S7 w os) (piecesOf (stsR 8 1) envT cT q7 BB) = PySem.W.Fast.tw10110043849684766642 PySem.W.Fast.tw14364793385576792824 pw w 11 annT 1 999 (S7 w os) (piecesOf (stsR 8 1) envT cT q7 BB)
  rw [PySem.W.Fast.te10110043849684766642, PySem.W.Fast.te14364793385576792824]
theorem p9q : ∀ w, fl9 w = fun os => some (.next, S8 w os, cT, q8) := byRow2 "set-order" (byRow2 "special-get-raises" (fun w => by kernel_rfl) (fun w => by kernel_rfl)) (byRow2 "special-get-raises" (fun w => by kernel_rfl) (fun w => by kernel_rfl))
theorem p9 (w : World) (os : OsState) : l9 w os = some (.next, S8 w os, cT, q8) := by rw [fl9_eq]; exact congrFun (p9q w) os
noncomputable def l10 (w : World) (os : OsState) := segRunT treeTable pw w 11 annT 1 30 (S8 w os) (piecesOf (stsR 9 1) envT cT q8 BB)
theorem p10 : ∀ w os, l10 w os = some (.next, S9 w os, cT, q9) := fun w os => by kernel_rfl
noncomputable def l12 (w : World) (os : OsState) (q : Pos) := segRunT treeTable pw w 11 annT 1 380 (S10 w os) (piecesOf (stsR 11 12) envT cT q BB)
theorem p12 : ∀ w os q, l12 w os q = some (.next, S22 w os, cT, q22) := fun w os q => by kernel_rfl
theorem fin0 : ∀ (w : World) (os : OsState) (c : Code) (q : Pos), topRun treeTable pw w 11 annT 2 (fin w os) ⟨doneF .next, c, q, BB⟩ = some (fin w os) := fun w os c q => by kernel_rfl
theorem bodyQ : pw.main.body = stsR 0 8 ++ (stsR 8 1 ++ (stsR 9 1 ++ (stsR 10 1 ++ (stsR 11 12 ++ [])))) := by kernel_rfl
theorem abs22 (w : World) (os : OsState) : (S22 w os).abs = fin w os := by
  show (⟨absHeap (T22 w.params) 165 {}, _, _, _, _⟩ : Shared) = _
  rw [h22]
  rfl
theorem topQ (w : World) (os : OsState) : topRun treeTable pw w 11 annT 14500 ⟨boot_heap w.params, Array.mk [], boot_drawn, boot_toks, os⟩ (topStub pw) = some (fin w os) := by
  obtain ⟨n, q', hn, h10⟩ := run10 w os
  have k0 : topRun treeTable pw w 11 annT 2 (S22 w os).abs (restOf [] envT cT q22 BB) = some (fin w os) := by
    rw [abs22]
    exact piece_nil (fin0 w os cT q22)
  have k1 := piece_app (segRun_of (p12 w os q')) k0
  have k2 := piece_app h10 k1
  have k3 := piece_app (segRun_of (p10 w os)) k2
  have k4 := piece_app (segRun_of (p9 w os)) k3
  have k5 := piece_app (segRun_of (p8 w os)) k4
  rw [← bodyQ] at k5
  have k6 := piece_block (blk0 w os) k5
  have k7 := go_top (pre0 w os) k6
  have k8 := topRun_mono (14500 - (12 + (1 + (183 + (999 + (30 + (n + (380 + 2)))))))) _ _ _ _ k7
  rwa [show 12 + (1 + (183 + (999 + (30 + (n + (380 + 2)))))) + (14500 - (12 + (1 + (183 + (999 + (30 + (n + (380 + 2)))))))) = 14500 by omega] at k8
theorem leftQ : LeftO pw viewQ looseQ XtQ (Hook.obs (kHook heapK heapA keysK)) (Hook.val (kHook heapK heapA keysK)) 28270 :=
  LeftO.of_pieces (H₀ := boot_heap) (H₁ := H22) (gs₀ := Array.mk []) (gs₁ := Array.mk []) (d₀ := boot_drawn) (d₁ := {}) (k₀ := boot_toks) (k₁ := 2373) (m₀ := 11) (ann := annT) (M := 14500)
    (boot_open (by kernel_rfl) (by decide) (fun _ => by kernel_rfl)) size0 topQ (by decide) fun w => by
      funext os
      have a : la w os = true := by rw [fla_eq]; exact congrFun (looka w) os
      have b : lb w os = openGood viewQ looseQ := by rw [flb_eq]; exact congrFun (lookb w) os
      exact Prod.ext a (Prod.ext b (lookc w os))
end
end Mine
end
section
open PySem PySem.W PyProof.Rows
namespace Mine
theorem ex2 {α0 : Sort _} {α1 : Sort _} {P : α0 → α1 → Prop} {G : Prop} (h : ∃ x0 x1, P x0 x1) (k : ∀ x0 x1, P x0 x1 → G) : G :=
  h.elim fun x0 h => h.elim fun x1 h => k x0 x1 h
theorem ex3 {α0 : Sort _} {α1 : Sort _} {α2 : Sort _} {P : α0 → α1 → α2 → Prop} {G : Prop} (h : ∃ x0 x1 x2, P x0 x1 x2) (k : ∀ x0 x1 x2, P x0 x1 x2 → G) : G :=
  h.elim fun x0 h => h.elim fun x1 h => h.elim fun x2 h => k x0 x1 x2 h
theorem ex4 {α0 : Sort _} {α1 : Sort _} {α2 : Sort _} {α3 : Sort _} {P : α0 → α1 → α2 → α3 → Prop} {G : Prop} (h : ∃ x0 x1 x2 x3, P x0 x1 x2 x3) (k : ∀ x0 x1 x2 x3, P x0 x1 x2 x3 → G) : G :=
  h.elim fun x0 h => h.elim fun x1 h => h.elim fun x2 h => h.elim fun x3 h => k x0 x1 x2 x3 h
theorem ex5 {α0 : Sort _} {α1 : Sort _} {α2 : Sort _} {α3 : Sort _} {α4 : Sort _} {P : α0 → α1 → α2 → α3 → α4 → Prop} {G : Prop} (h : ∃ x0 x1 x2 x3 x4, P x0 x1 x2 x3 x4) (k : ∀ x0 x1 x2 x3 x4, P x0 x1 x2 x3 x4 → G) : G :=
  h.elim fun x0 h => h.elim fun x1 h => h.elim fun x2 h => h.elim fun x3 h => h.elim fun x4 h => k x0 x1 x2 x3 x4 h
theorem ex6 {α0 : Sort _} {α1 : Sort _} {α2 : Sort _} {α3 : Sort _} {α4 : Sort _} {α5 : Sort _} {P : α0 → α1 → α2 → α3 → α4 → α5 → Prop} {G : Prop} (h : ∃ x0 x1 x2 x3 x4 x5, P x0 x1 x2 x3 x4 x5) (k : ∀ x0 x1 x2 x3 x4 x5, P x0 x1 x2 x3 x4 x5 → G) : G :=
  h.elim fun x0 h => h.elim fun x1 h => h.elim fun x2 h => h.elim fun x3 h => h.elim fun x4 h => h.elim fun x5 h => k x0 x1 x2 x3 x4 x5 h
theorem ex7 {α0 : Sort _} {α1 : Sort _} {α2 : Sort _} {α3 : Sort _} {α4 : Sort _} {α5 : Sort _} {α6 : Sort _} {P : α0 → α1 → α2 → α3 → α4 → α5 → α6 → Prop} {G : Prop} (h : ∃ x0 x1 x2 x3 x4 x5 x6, P x0 x1 x2 x3 x4 x5 x6) (k : ∀ x0 x1 x2 x3 x4 x5 x6, P x0 x1 x2 x3 x4 x5 x6 → G) : G :=
  h.elim fun x0 h => h.elim fun x1 h => h.elim fun x2 h => h.elim fun x3 h => h.elim fun x4 h => h.elim fun x5 h => h.elim fun x6 h => k x0 x1 x2 x3 x4 x5 x6 h
theorem ex8 {α0 : Sort _} {α1 : Sort _} {α2 : Sort _} {α3 : Sort _} {α4 : Sort _} {α5 : Sort _} {α6 : Sort _} {α7 : Sort _} {P : α0 → α1 → α2 → α3 → α4 → α5 → α6 → α7 → Prop} {G : Prop} (h : ∃ x0 x1 x2 x3 x4 x5 x6 x7, P x0 x1 x2 x3 x4 x5 x6 x7) (k : ∀ x0 x1 x2 x3 x4 x5 x6 x7, P x0 x1 x2 x3 x4 x5 x6 x7 → G) : G :=
  h.elim fun x0 h => h.elim fun x1 h => h.elim fun x2 h => h.elim fun x3 h => h.elim fun x4 h => h.elim fun x5 h => h.elim fun x6 h => h.elim fun x7 h => k x0 x1 x2 x3 x4 x5 x6 x7 h
theorem an2 {A0 A1 G : Prop} (h : A0 ∧ A1) (k : A0 → A1 → G) : G := k h.1 h.2
theorem an3 {A0 A1 A2 G : Prop} (h : A0 ∧ A1 ∧ A2) (k : A0 → A1 → A2 → G) : G := k h.1 h.2.1 h.2.2
theorem an4 {A0 A1 A2 A3 G : Prop} (h : A0 ∧ A1 ∧ A2 ∧ A3) (k : A0 → A1 → A2 → A3 → G) : G := k h.1 h.2.1 h.2.2.1 h.2.2.2
theorem an5 {A0 A1 A2 A3 A4 G : Prop} (h : A0 ∧ A1 ∧ A2 ∧ A3 ∧ A4) (k : A0 → A1 → A2 → A3 → A4 → G) : G := k h.1 h.2.1 h.2.2.1 h.2.2.2.1 h.2.2.2.2
theorem an6 {A0 A1 A2 A3 A4 A5 G : Prop} (h : A0 ∧ A1 ∧ A2 ∧ A3 ∧ A4 ∧ A5) (k : A0 → A1 → A2 → A3 → A4 → A5 → G) : G := k h.1 h.2.1 h.2.2.1 h.2.2.2.1 h.2.2.2.2.1 h.2.2.2.2.2
theorem an7 {A0 A1 A2 A3 A4 A5 A6 G : Prop} (h : A0 ∧ A1 ∧ A2 ∧ A3 ∧ A4 ∧ A5 ∧ A6) (k : A0 → A1 → A2 → A3 → A4 → A5 → A6 → G) : G := k h.1 h.2.1 h.2.2.1 h.2.2.2.1 h.2.2.2.2.1 h.2.2.2.2.2.1 h.2.2.2.2.2.2
theorem an8 {A0 A1 A2 A3 A4 A5 A6 A7 G : Prop} (h : A0 ∧ A1 ∧ A2 ∧ A3 ∧ A4 ∧ A5 ∧ A6 ∧ A7) (k : A0 → A1 → A2 → A3 → A4 → A5 → A6 → A7 → G) : G := k h.1 h.2.1 h.2.2.1 h.2.2.2.1 h.2.2.2.2.1 h.2.2.2.2.2.1 h.2.2.2.2.2.2.1 h.2.2.2.2.2.2.2
theorem an9 {A0 A1 A2 A3 A4 A5 A6 A7 A8 G : Prop} (h : A0 ∧ A1 ∧ A2 ∧ A3 ∧ A4 ∧ A5 ∧ A6 ∧ A7 ∧ A8) (k : A0 → A1 → A2 → A3 → A4 → A5 → A6 → A7 → A8 → G) : G := k h.1 h.2.1 h.2.2.1 h.2.2.2.1 h.2.2.2.2.1 h.2.2.2.2.2.1 h.2.2.2.2.2.2.1 h.2.2.2.2.2.2.2.1 h.2.2.2.2.2.2.2.2
theorem po1 {α0 : Sort _} {f : α0 → Value} {g : α0 → List (Addr × Obj)} {C : Value → List (Addr × Obj) → Prop} {v : Value} {new : List (Addr × Obj)} (h : ∃ x0, v = f x0 ∧ new = g x0) (k : ∀ x0, C (f x0) (g x0)) : C v new := by
  obtain ⟨x0, rfl, rfl⟩ := h
  exact k x0
theorem po1R {α0 : Sort _} {f : α0 → Value} {g : α0 → List (Addr × Obj)} {R : α0 → Prop} {C : Value → List (Addr × Obj) → Prop} {v : Value} {new : List (Addr × Obj)} (h : ∃ x0, v = f x0 ∧ new = g x0 ∧ R x0) (k : ∀ x0, R x0 → C (f x0) (g x0)) : C v new := by
  obtain ⟨x0, rfl, rfl, h⟩ := h
  exact k x0 h
theorem po2 {α0 : Sort _} {α1 : Sort _} {f : α0 → α1 → Value} {g : α0 → α1 → List (Addr × Obj)} {C : Value → List (Addr × Obj) → Prop} {v : Value} {new : List (Addr × Obj)} (h : ∃ x0 x1, v = f x0 x1 ∧ new = g x0 x1) (k : ∀ x0 x1, C (f x0 x1) (g x0 x1)) : C v new := by
  obtain ⟨x0, x1, rfl, rfl⟩ := h
  exact k x0 x1
theorem po2R {α0 : Sort _} {α1 : Sort _} {f : α0 → α1 → Value} {g : α0 → α1 → List (Addr × Obj)} {R : α0 → α1 → Prop} {C : Value → List (Addr × Obj) → Prop} {v : Value} {new : List (Addr × Obj)} (h : ∃ x0 x1, v = f x0 x1 ∧ new = g x0 x1 ∧ R x0 x1) (k : ∀ x0 x1, R x0 x1 → C (f x0 x1) (g x0 x1)) : C v new := by
  obtain ⟨x0, x1, rfl, rfl, h⟩ := h
  exact k x0 x1 h
theorem po3 {α0 : Sort _} {α1 : Sort _} {α2 : Sort _} {f : α0 → α1 → α2 → Value} {g : α0 → α1 → α2 → List (Addr × Obj)} {C : Value → List (Addr × Obj) → Prop} {v : Value} {new : List (Addr × Obj)} (h : ∃ x0 x1 x2, v = f x0 x1 x2 ∧ new = g x0 x1 x2) (k : ∀ x0 x1 x2, C (f x0 x1 x2) (g x0 x1 x2)) : C v new := by
  obtain ⟨x0, x1, x2, rfl, rfl⟩ := h
  exact k x0 x1 x2
theorem po3R {α0 : Sort _} {α1 : Sort _} {α2 : Sort _} {f : α0 → α1 → α2 → Value} {g : α0 → α1 → α2 → List (Addr × Obj)} {R : α0 → α1 → α2 → Prop} {C : Value → List (Addr × Obj) → Prop} {v : Value} {new : List (Addr × Obj)} (h : ∃ x0 x1 x2, v = f x0 x1 x2 ∧ new = g x0 x1 x2 ∧ R x0 x1 x2) (k : ∀ x0 x1 x2, R x0 x1 x2 → C (f x0 x1 x2) (g x0 x1 x2)) : C v new := by
  obtain ⟨x0, x1, x2, rfl, rfl, h⟩ := h
  exact k x0 x1 x2 h
theorem po4 {α0 : Sort _} {α1 : Sort _} {α2 : Sort _} {α3 : Sort _} {f : α0 → α1 → α2 → α3 → Value} {g : α0 → α1 → α2 → α3 → List (Addr × Obj)} {C : Value → List (Addr × Obj) → Prop} {v : Value} {new : List (Addr × Obj)} (h : ∃ x0 x1 x2 x3, v = f x0 x1 x2 x3 ∧ new = g x0 x1 x2 x3) (k : ∀ x0 x1 x2 x3, C (f x0 x1 x2 x3) (g x0 x1 x2 x3)) : C v new := by
  obtain ⟨x0, x1, x2, x3, rfl, rfl⟩ := h
  exact k x0 x1 x2 x3
theorem po4R {α0 : Sort _} {α1 : Sort _} {α2 : Sort _} {α3 : Sort _} {f : α0 → α1 → α2 → α3 → Value} {g : α0 → α1 → α2 → α3 → List (Addr × Obj)} {R : α0 → α1 → α2 → α3 → Prop} {C : Value → List (Addr × Obj) → Prop} {v : Value} {new : List (Addr × Obj)} (h : ∃ x0 x1 x2 x3, v = f x0 x1 x2 x3 ∧ new = g x0 x1 x2 x3 ∧ R x0 x1 x2 x3) (k : ∀ x0 x1 x2 x3, R x0 x1 x2 x3 → C (f x0 x1 x2 x3) (g x0 x1 x2 x3)) : C v new := by
  obtain ⟨x0, x1, x2, x3, rfl, rfl, h⟩ := h
  exact k x0 x1 x2 x3 h
end Mine
namespace Mine
theorem kn {m m' : Str → Option Value} {x : Str} {v : Value} (h : m x = some v) (e : m = m') : m = fun y => if y = x then some v else m' y := by
  funext y
  by_cases d : y = x
  · rw [if_pos d, d, h]
  · rw [if_neg d, e]
theorem fr1 {g h : Heap} {L : Addr} {m : Str → Option Value} {x1 : Str} {v1 : Value} {G : Prop} (F : Fr g L h m) (e1 : m x1 = some v1) (k : ∀ m0 : Str → Option Value, Fr g L h (fun y => if y = x1 then some v1 else m0 y) → G) : G :=
  k m (kn e1 rfl ▸ F)
theorem fr2 {g h : Heap} {L : Addr} {m : Str → Option Value} {x1 x2 : Str} {v1 v2 : Value} {G : Prop} (F : Fr g L h m) (e1 : m x1 = some v1) (e2 : m x2 = some v2) (k : ∀ m0 : Str → Option Value, Fr g L h (fun y => if y = x1 then some v1 else if y = x2 then some v2 else m0 y) → G) : G :=
  k m (kn e1 (kn e2 rfl) ▸ F)
theorem fr3 {g h : Heap} {L : Addr} {m : Str → Option Value} {x1 x2 x3 : Str} {v1 v2 v3 : Value} {G : Prop} (F : Fr g L h m) (e1 : m x1 = some v1) (e2 : m x2 = some v2) (e3 : m x3 = some v3) (k : ∀ m0 : Str → Option Value, Fr g L h (fun y => if y = x1 then some v1 else if y = x2 then some v2 else if y = x3 then some v3 else m0 y) → G) : G :=
  k m (kn e1 (kn e2 (kn e3 rfl)) ▸ F)
/-- the ledger under a name -/
theorem ledO {g h : Heap} {L : Addr} {led : List (Addr × Obj)} {G : Prop} (N : News g L h led) (k : ∀ K : List (Addr × Obj), led = K → (∀ q, q ∈ led → q ∈ K) → News g L h K → G) : G := k led rfl (fun _ h => h) N
end Mine
namespace Mine
theorem rot3 {α : Type} {x y z : α} {K : List α} (q : α) (h : q ∈ x :: y :: z :: K) : q ∈ z :: y :: x :: K := by
  simp only [List.mem_cons] at h ⊢
  exact h.elim (fun h => .inr (.inr (.inl h))) fun h => h.elim (fun h => .inr (.inl h)) fun h => h.elim .inl fun h => .inr (.inr (.inr h))
end Mine
end
section
open PySem PySem.W PyProof.Rows PySem.Calls
set_option maxRecDepth 100000
set_option maxHeartbeats 1000000
namespace Mine
section
variable {prog : Program} {w : World} {A A₀ : Around} {E : Value → Shared → Prop} {s : Shared} {K : Frag} {L : Addr} {h₀ base : Heap} {m mg mb : Str → Option Value} {news : List (Addr × Obj)} {p : Program} {loose : List Str} {mean : ExcName → Option Value}
theorem enterP {env : Env} {outer : List Env} {R : Result → Shared → Prop} {name qual : Str} {params : Arguments} {body : List Stmt} {scope : Scope} {dV kV doc pm cdv ct oc : Value} {an od : Option Addr} {osl : Array (Option Value)} {f : Addr} {args : Args} {binds : List (Str × Value)}
    (B : Below A₀ base outer h₀) (F : Fr h₀ L s.heap m) (X₀ : K.In h₀) (N : News h₀ L s.heap news) (T : Top p loose mean mg mb h₀) (hA : A.frames = some (env :: outer)) (hf : env.frame = some L) (hke : env.scope.kind = .function)
    (ho : K.lookup f = some ⟨oc, od, .func (fnOf name qual params body scope dV kV doc pm an cdv ct), osl⟩) (hcd : codeIn K cdv qual = true) (hroom : A.depth < recursionLimit)
    (hbind : BindsTo s (fnOf name qual params body scope dV kV doc pm an cdv ct) args binds) (hloc : ∀ y ∈ binds, scope.names.lookup y.1 = some .local)
    (h : ∀ g L' h₁ tk, g = hideAll s.heap (news.map (·.1)) → Fr h₀ L g m → Fr g L' h₁ (fun y => binds.reverse.lookup y) → News g L' h₁ news → Below A base (env :: outer) g → K.In g → Top p loose mean mg mb g →
      wpAny (model prog w) (A.deeper (envOf qual scope L' f cdv)) (execs body (envOf qual scope L' f cdv))
        (fun fl s' => LeaveK h₀ L m g R (match fl with | .ret v => v | _ => .none) s')
        (fun e s' => wpAny (model prog w) (A.deeper (envOf qual scope L' f cdv)) (leaving (envOf qual scope L' f cdv) e) (fun _ s'' => R (.error e) s'') (fun e' s'' => R (.error e') s'') s')
        { s with heap := h₁, toks := tk })
    (hco : scope.isCoroutine = false) (hgen : scope.isGenerator = false) (hk : scope.kind = .function)
    (hcell : ∀ x ∈ scope.names, x.2 ≠ .cell) : codeAny (model prog w) A (.call (.ref f) args) R s := by
  obtain ⟨FG, BG, st, lv⟩ := groundX (R := R) B F N hA hf hke
  have ho' := (X₀.keeps F.keep) _ _ ho
  refine codeAny_call_def (fd := fnOf name qual params body scope dV kV doc pm an cdv ct) (body := body) (binds := binds) hroom ho' rfl (T.nolimit.keeps F.keep) (codeRec_of (X₀.keeps F.keep) hcd) rfl hbind hcell hloc (fun h₁ hns hk₁ => ?_) hco hgen hk
  exact wpAny_mono (h _ s.heap.objs.size h₁ _ rfl FG ⟨hns, fun b o e => hk₁ b o (of_hideAll _ e), Nat.le_of_eq (hideAll_size _ _)⟩
    (fun p hp => ⟨hk₁ _ _ (N p hp).1, Nat.ne_of_lt (Heap.lt_size (N p hp).1), hideAll_none _ (List.mem_map_of_mem hp)⟩) BG (X₀.keeps st) (T.keeps st)) (fun fl s' hl => lv _ _ hl) fun _ _ y => y
theorem enterC {env : Env} {outer : List Env} {R : Result → Shared → Prop} {name qual : Str} {params : Arguments} {body : List Stmt} {scope : Scope} {dV kV doc pm cdv ct oc : Value} {an od : Option Addr} {osl : Array (Option Value)} {f : Addr} {args : Args} {binds : List (Str × Value)}
    (B : Below A₀ base outer h₀) (F : Fr h₀ L s.heap m) (X₀ : K.In h₀) (N : News h₀ L s.heap news) (T : Top p loose mean mg mb h₀) (hA : A.frames = some (env :: outer)) (hf : env.frame = some L) (hke : env.scope.kind = .function)
    (ho : K.lookup f = some ⟨oc, od, .func (fnOf name qual params body scope dV kV doc pm an cdv ct), osl⟩) (hcd : codeIn K cdv qual = true) (hroom : A.depth < recursionLimit)
    (hbind : BindsTo s (fnOf name qual params body scope dV kV doc pm an cdv ct) args binds) (hkind : (binds.all fun y => scope.names.lookup y.1 == some .local || scope.names.lookup y.1 == some .cell) = true)
    (hnd : ((cellsFrom 0 scope.names []).map (·.1)).Nodup)
    (h : ∀ g L' h₁ tk cells, g = hideAll s.heap (news.map (·.1)) → Fr h₀ L g m → Fr g L' h₁ (bindL (envOfC qual scope L' f cdv).kindOf binds fun _ => none) → News g L' h₁ (cells ++ news) →
      CellsAre (bindC (envOfC qual scope L' f cdv).kindOf binds fun _ => none) (cellsFrom (L' + 1) scope.names []) cells → Below A base (env :: outer) g → K.In g → Top p loose mean mg mb g → (∀ p ∈ news, p.1 < L') →
      wpAny (model prog w) (A.deeper (envOfC qual scope L' f cdv)) (execs body (envOfC qual scope L' f cdv))
        (fun fl s' => LeaveK h₀ L m g R (match fl with | .ret v => v | _ => .none) s')
        (fun e s' => wpAny (model prog w) (A.deeper (envOfC qual scope L' f cdv)) (leaving (envOfC qual scope L' f cdv) e) (fun _ s'' => R (.error e) s'') (fun e' s'' => R (.error e') s'') s')
        { s with heap := h₁, toks := tk })
    (hco : scope.isCoroutine = false) (hgen : scope.isGenerator = false) (hk : scope.kind = .function) : codeAny (model prog w) A (.call (.ref f) args) R s := by
  obtain ⟨FG, BG, st, lv⟩ := groundX (R := R) B F N hA hf hke
  have ho' := (X₀.keeps F.keep) _ _ ho
  refine codeAny_call_function (fd := fnOf name qual params body scope dV kV doc pm an cdv ct) hroom ho' rfl hco hgen rfl (codeRec_of (X₀.keeps F.keep) hcd) (hbind _ _ _ _ ?_)
  refine wpAny_newFunctionEnv_cells hk (kindsX hkind _) fun env' he s' x => ?_
  subst he
  refine ⟨(T.nolimit.keeps F.keep).keeps x.toInCall.keep, codeAny_func ?_⟩
  obtain ⟨h₁, tk, rfl, _⟩ := x.done
  have hk₁ := x.toInCall.keep
  obtain ⟨cells, NC, Y⟩ := Cl.news (h₀ := s.heap) (Nat.le_refl _) fun n c hm => ⟨x.cell n c (lookup_of_mem_nodup (cellsFrom_names scope.names 0 (s.heap.objs.size + 1) [] [] rfl ▸ hnd) hm), x.above n c hm⟩
  refine wpAny_mono (h _ s.heap.objs.size h₁ tk cells rfl FG ⟨x.toInCall.ns, fun b o e => hk₁ b o (of_hideAll _ e), Nat.le_of_eq (hideAll_size _ _)⟩ (fun p hp => ?_) Y BG (X₀.keeps st) (T.keeps st) (fun p hp => Heap.lt_size (N p hp).1)) (fun fl s' hl => lv _ _ hl) fun _ _ y => y
  rcases List.mem_append.mp hp with hp | hp
  · refine ⟨(NC p hp).1, (NC p hp).2.1, ?_⟩
    cases q : (hideAll s.heap (news.map (·.1))).get? p.1 with
    | none => rfl
    | some o => have := of_hideAll _ q; rw [(NC p hp).2.2] at this; cases this
  · exact ⟨hk₁ _ _ (N p hp).1, Nat.ne_of_lt (Heap.lt_size (N p hp).1), hideAll_none _ (List.mem_map_of_mem hp)⟩

/-- what a claim hands back: the frame, the ledger with what is new, all else as it was, the new apart from the old -/
structure BackK (h₀ : Heap) (L : Addr) (m : Str → Option Value) (h : Heap) (need new : List (Addr × Obj)) (h' : Heap) : Prop where
  fr : Fr h₀ L h' m
  news : News h₀ L h' (new ++ need)
  keep : ∀ b o, (hideAll h (need.map (·.1))).get? b = some o → h'.get? b = some o
  none_ : ∀ p ∈ new, (hideAll h (need.map (·.1))).get? p.1 = none
  apart : ∀ p ∈ new, ∀ q ∈ need, q.1 ≠ p.1
theorem BackK.use {h h' : Heap} {Lg need new : List (Addr × Obj)} (b : BackK h₀ L m h need new h') (N : News h₀ L h Lg) (hs : ∀ p ∈ need, p ∈ Lg) :
    News h₀ L h' (new ++ Lg) ∧ ∀ p ∈ new, ∀ q ∈ Lg, q.1 ≠ p.1 := by
  refine ⟨fun p hp => ?_, fun p hp q hq e => ?_⟩
  · rcases List.mem_append.mp hp with hp | hp
    · exact b.news p (List.mem_append_left _ hp)
    · have hN := N p hp
      by_cases hm : p.1 ∈ need.map (·.1)
      · obtain ⟨q, hq, e⟩ := List.mem_map.mp hm
        have hq' := N q (hs q hq)
        have e2 : q = p := Prod.ext e (Option.some.inj (by rw [← hq'.1, ← hN.1, e]))
        exact e2 ▸ b.news q (List.mem_append_right _ hq)
      · exact ⟨b.keep _ _ (hideAll_get _ hN.1 hm), hN.2⟩
  · by_cases hm : q.1 ∈ need.map (·.1)
    · obtain ⟨r, hr, e'⟩ := List.mem_map.mp hm
      exact b.apart p hp r hr (e'.trans e)
    · have := hideAll_get _ (N q hq).1 hm
      rw [e, b.none_ p hp] at this
      cases this
/-- from within the callee's frame -/
theorem BackK.of {g h h' : Heap} {L' : Addr} {m' : Str → Option Value} {need new led : List (Addr × Obj)} (hg : g = hideAll h (need.map (·.1))) (F' : Fr g L' h' m') (N' : News g L' h' led) (F : Fr h₀ L h' m) (N : News h₀ L h' led)
    (h1 : ∀ p ∈ new ++ need, p ∈ led) (h2 : ∀ p ∈ new, ∀ q ∈ need, q.1 ≠ p.1) : BackK h₀ L m h need new h' :=
  ⟨F, fun p hp => N p (h1 p hp), fun b o e => F'.keep b o (hg ▸ e), fun p hp => hg ▸ (N' p (h1 p (List.mem_append_left _ hp))).2.2, h2⟩
end
abbrev tupOb (vs : Array Value) : Obj := { cls := .type "tuple", data := .seq vs 0 }

/-- the claim for a call of the text's def f: for a ledger of just what the def reads -/
abbrev ClaimF (w : World) (r u : Nat) (f : Addr) (need : List (Addr × Obj)) (vs : List Value) (P : Value → List (Addr × Obj) → Prop) : Prop :=
  ∀ {mean : ExcName → Option Value} {mg mb : Str → Option Value} (dp un : Nat) (gd : Option (List Code)) (cn : Str) (cs : Scope) (a : Addr) (ccd : Value) (cl : List (Str × Addr)) (outer : List Env) (A₀ : Around) (base h₀ : Heap) (L : Addr) (m : Str → Option Value) (s : Shared) (Q E : Value → Shared → Prop),
    Below A₀ base outer h₀ → Fr h₀ L s.heap m → (heapK w.params).In h₀ → News h₀ L s.heap need → Top viewQ (looseW viewQ looseQ) mean mg mb h₀ → cs.kind = .function → dp + r < recursionLimit → un + u < cLine →
    (∀ v new h' tk', P v new → BackK h₀ L m s.heap need new h' → Q v { s with heap := h', toks := tk' }) →
    wpAny (model lawRow.prog w) (ktrTop dp un gd cn cs L a ccd cl outer) (call (.ref f) vs) Q E s
end Mine
end
section
open PySem PySem.W PyProof.Rows PySem.Calls
namespace Mine
/-- the continuation a name of its own, and no error looked for -/
theorem opaqQ {α : Type} {M : Model} {A : Around} {t : Sem α} {Q : α → Shared → Prop} {E : Value → Shared → Prop} {s : Shared} (h : ∀ (Q' : α → Shared → Prop), (∀ a s, Q a s → Q' a s) → wpAny M A t Q' (fun _ _ => False) s) : wpAny M A t Q E s :=
  wpAny_mono (h Q (fun _ _ h => h)) (fun _ _ h => h) (fun _ _ h => h.elim)
/-- the same behind a first step -/
theorem opaqQ2 {α β : Type} {M : Model} {A B : Around} {t : Sem α} {u : α → Sem β} {Q : β → Shared → Prop} {E F : Value → Shared → Prop} {s : Shared} (h : ∀ (Q' : β → Shared → Prop), (∀ a s, Q a s → Q' a s) → wpAny M A t (fun a s₂ => wpAny M B (u a) Q' (fun _ _ => False) s₂) (fun _ _ => False) s) : wpAny M A t (fun a s₂ => wpAny M B (u a) Q F s₂) E s :=
  wpAny_mono (h Q (fun _ _ h => h)) (fun _ _ h => wpAny_mono h (fun _ _ h => h) (fun _ _ h => h.elim)) (fun _ _ h => h.elim)
/-- what stands behind a statement, under a name -/
noncomputable def Nx (M : Model) (A : Around) (rest : List Stmt) (env : Env) (Q : Flow → Shared → Prop) (E : Value → Shared → Prop) (Q9 : Flow → Shared → Prop) : Prop :=
  ∀ f s, (match f with | .next => wpAny M A (execs rest env) Q E s | f => Q f s) → Q9 f s
theorem execsO {M : Model} {A : Around} {st : Stmt} {rest : List Stmt} {env : Env} {Q : Flow → Shared → Prop} {E : Value → Shared → Prop} {s : Shared} (h : ∀ Q9, Nx M A rest env Q E Q9 → wpAny M A (exec st env) Q9 (fun _ _ => False) s) : wpAny M A (execs (st :: rest) env) Q E s :=
  wpAny_execs_cons (opaqQ h)
theorem Nx.nx {M : Model} {A : Around} {rest : List Stmt} {env : Env} {Q : Flow → Shared → Prop} {E : Value → Shared → Prop} {Q9 : Flow → Shared → Prop} {s : Shared} (H : Nx M A rest env Q E Q9) (h : wpAny M A (execs rest env) Q E s) : Q9 .next s := H .next s h
theorem Nx.rt {M : Model} {A : Around} {rest : List Stmt} {env : Env} {Q : Flow → Shared → Prop} {E : Value → Shared → Prop} {Q9 : Flow → Shared → Prop} {v : Value} {s : Shared} (H : Nx M A rest env Q E Q9) (h : Q (.ret v) s) : Q9 (.ret v) s := H (.ret v) s h
theorem Nx.ct {M : Model} {A : Around} {rest : List Stmt} {env : Env} {Q : Flow → Shared → Prop} {E : Value → Shared → Prop} {Q9 : Flow → Shared → Prop} {s : Shared} (H : Nx M A rest env Q E Q9) (h : Q .cont s) : Q9 .cont s := H .cont s h
theorem Nx.bk {M : Model} {A : Around} {rest : List Stmt} {env : Env} {Q : Flow → Shared → Prop} {E : Value → Shared → Prop} {Q9 : Flow → Shared → Prop} {s : Shared} (H : Nx M A rest env Q E Q9) (h : Q .brk s) : Q9 .brk s := H .brk s h
/-- the whole continuation, under a name -/
noncomputable def Hl {α : Type} (Q Q' : α → Shared → Prop) : Prop := ∀ a s, Q a s → Q' a s
theorem opaqH {α : Type} {M : Model} {A : Around} {t : Sem α} {Q : α → Shared → Prop} {E : Value → Shared → Prop} {s : Shared} (h : ∀ Q', Hl Q Q' → wpAny M A t Q' (fun _ _ => False) s) : wpAny M A t Q E s := opaqQ h
theorem Hl.use {α : Type} {Q Q' : α → Shared → Prop} {a : α} {s : Shared} (H : Hl Q Q') (h : Q a s) : Q' a s := H a s h
end Mine
end
section
open PySem PySem.W PyProof.Rows PySem.Calls
set_option maxRecDepth 100000
set_option maxHeartbeats 1000000
namespace Mine
noncomputable def fgt (a b : UInt64) : Bool := Float64.cmp a b == some Ordering.gt
noncomputable def flt (a b : UInt64) : Bool := Float64.cmp a b == some Ordering.lt
noncomputable def fmax2 (a b : UInt64) : UInt64 := if fgt b a = true then b else a
noncomputable def fmin2 (a b : UInt64) : UInt64 := if flt b a = true then b else a
noncomputable def fmax3 (a b c : UInt64) : UInt64 := fmax2 (fmax2 a b) c
noncomputable def fmin3 (a b c : UInt64) : UInt64 := fmin2 (fmin2 a b) c
noncomputable def fItems (xs : Array (UInt64 × Tok)) : Array Value := xs.map fun p => .float p.1 p.2
noncomputable def fAt (xs : Array (UInt64 × Tok)) (i : Nat) : UInt64 := (xs[i]?.map (·.1)).getD 0
theorem fItems_at {xs : Array (UInt64 × Tok)} {i : Nat} {v : Value} (h : (fItems xs)[i]? = some v) : ∃ t, v = .float (fAt xs i) t := by
  simp only [fItems, Array.getElem?_map, Option.map_eq_some_iff] at h
  obtain ⟨p, hp, rfl⟩ := h
  exact ⟨p.2, by simp [fAt, hp]⟩
section
variable {prog : Program} {w : World} {A : Around} {E : Value → Shared → Prop} {s : Shared} {h₀ : Heap} {L : Addr} {m : Str → Option Value} {news : List (Addr × Obj)}
theorem cmpF_gt {P : Nat → Value → Prop} (val : Nat → UInt64) (hval : ∀ i v, P i v → ∃ t, v = .float (val i) t) : CmpOf prog w A .Gt P (fun i j => fgt (val i) (val j)) := fun i j vi vj s Q E hi hj h => by
  obtain ⟨t, rfl⟩ := hval i vi hi
  obtain ⟨u, rfl⟩ := hval j vj hj
  exact richCompare_gives (op := .Gt) (AutoFloatOps.typeIs_float s _ t) (AutoFloatOps.typeIs_float s _ u) F.slot_float_gt F.entry_float_gt (F.args_float_gt_2 _ _) (AutoFloatG4.float___gt___float_float_0 _ t _ u) (fun x => nomatch x) h
theorem cmpF_lt {P : Nat → Value → Prop} (val : Nat → UInt64) (hval : ∀ i v, P i v → ∃ t, v = .float (val i) t) : CmpOf prog w A .Lt P (fun i j => flt (val i) (val j)) := fun i j vi vj s Q E hi hj h => by
  obtain ⟨t, rfl⟩ := hval i vi hi
  obtain ⟨u, rfl⟩ := hval j vj hj
  exact richCompare_gives (op := .Lt) (AutoFloatOps.typeIs_float s _ t) (AutoFloatOps.typeIs_float s _ u) F.slot_float_lt F.entry_float_lt (F.args_float_lt_2 _ _) (AutoFloatG5.float___lt___float_float_0 _ t _ u) (fun x => nomatch x) h
theorem max3F {a b c : UInt64} {t u x : Tok} {Q : Value → Shared → Prop} (hh : A.handled = none) (F : Fr h₀ L s.heap m) (N : News h₀ L s.heap news)
    (h : ∀ h' tk y, Fr h₀ L h' m → News h₀ L h' news → Q (.float (fmax3 a b c) y) { s with heap := h', toks := tk }) :
    wpAny (model prog w) A (call (.builtin "max") [.float a t, .float b u, .float c x]) Q E s := by
  have hT : (s.heap.push { cls := .type "tuple", data := .seq #[.float a t, .float b u, .float c x] }).IsTuple s.heap.objs.size (fItems #[(a, t), (b, u), (c, x)]) := ⟨_, Heap.get?_push_size _ rfl, rfl, 0, by simp [fItems]⟩
  refine call_max_three (wpAny_pyIter_tuple hT ?_)
  have hsz : (s.heap.push { cls := .type "tuple", data := .seq #[.float a t, .float b u, .float c x] }).objs.size = s.heap.objs.size + 1 := Heap.size_push ..
  refine ⟨_, [_, s.heap.objs.size], [_], _, _, _, _, rfl, Walks.tuple (A := A.in1) hh _ s.heap.objs.size (by rw [hsz]; exact Nat.ne_of_lt (Nat.lt_succ_self _)) (fItems #[(a, t), (b, u), (c, x)]),
    ⟨⟨_, Heap.get?_push_size _ rfl, rfl, rfl⟩, hT.push _⟩, fun d hd => ?_, by simp [fItems], cmpF_gt (fAt #[(a, t), (b, u), (c, x)]) (fun _ _ => fItems_at), fun v h' tk hP hk => ?_⟩
  · show d < ((s.heap.push _).push _).objs.size
    rw [Heap.size_push, hsz]
    rcases List.mem_cons.mp hd with rfl | hd
    · rw [hsz]; exact Nat.lt_succ_self _
    · rcases List.mem_cons.mp hd with rfl | hd
      · exact Nat.lt_succ_of_lt (Nat.lt_succ_self _)
      · cases hd
  · have hold : ∀ d o, s.heap.get? d = some o → h'.get? d = some o := fun d o e => by
      refine hk d o (fun hm => ?_) (Heap.get?_push_of_some _ (Heap.get?_push_of_some _ e))
      rcases List.mem_cons.mp hm with e1 | hm
      · have := Heap.lt_size e; rw [e1, hsz] at this; exact Nat.lt_irrefl _ (Nat.lt_of_succ_lt this)
      · cases hm
    have hv : ∃ y, v = .float (fmax3 a b c) y := by
      have hP' : (fItems #[(a, t), (b, u), (c, x)])[argBest (fun i j => fgt (fAt #[(a, t), (b, u), (c, x)] i) (fAt #[(a, t), (b, u), (c, x)] j)) 2]? = some v := by
        rw [show 2 = (fItems #[(a, t), (b, u), (c, x)]).size - 1 by simp [fItems]]
        exact hP
      by_cases hba : fgt b a = true
      · by_cases hc : fgt c b = true
        · have e : argBest (fun i j => fgt (fAt #[(a, t), (b, u), (c, x)] i) (fAt #[(a, t), (b, u), (c, x)] j)) 2 = 2 := by simp [argBest, fAt, hba, hc]
          rw [e] at hP'
          exact ⟨x, by simpa [fItems, fmax3, fmax2, hba, hc] using hP'.symm⟩
        · have e : argBest (fun i j => fgt (fAt #[(a, t), (b, u), (c, x)] i) (fAt #[(a, t), (b, u), (c, x)] j)) 2 = 1 := by simp [argBest, fAt, hba, hc]
          rw [e] at hP'
          exact ⟨u, by simpa [fItems, fmax3, fmax2, hba, hc] using hP'.symm⟩
      · by_cases hc : fgt c a = true
        · have e : argBest (fun i j => fgt (fAt #[(a, t), (b, u), (c, x)] i) (fAt #[(a, t), (b, u), (c, x)] j)) 2 = 2 := by simp [argBest, fAt, hba, hc]
          rw [e] at hP'
          exact ⟨x, by simpa [fItems, fmax3, fmax2, hba, hc] using hP'.symm⟩
        · have e : argBest (fun i j => fgt (fAt #[(a, t), (b, u), (c, x)] i) (fAt #[(a, t), (b, u), (c, x)] j)) 2 = 0 := by simp [argBest, fAt, hba, hc]
          rw [e] at hP'
          exact ⟨t, by simpa [fItems, fmax3, fmax2, hba, hc] using hP'.symm⟩
    obtain ⟨y, rfl⟩ := hv
    exact h h' tk y (F.grownK hold) (N.grown hold)
theorem min3F {a b c : UInt64} {t u x : Tok} {Q : Value → Shared → Prop} (hh : A.handled = none) (F : Fr h₀ L s.heap m) (N : News h₀ L s.heap news)
    (h : ∀ h' tk y, Fr h₀ L h' m → News h₀ L h' news → Q (.float (fmin3 a b c) y) { s with heap := h', toks := tk }) :
    wpAny (model prog w) A (call (.builtin "min") [.float a t, .float b u, .float c x]) Q E s := by
  have hT : (s.heap.push { cls := .type "tuple", data := .seq #[.float a t, .float b u, .float c x] }).IsTuple s.heap.objs.size (fItems #[(a, t), (b, u), (c, x)]) := ⟨_, Heap.get?_push_size _ rfl, rfl, 0, by simp [fItems]⟩
  refine call_min_three (wpAny_pyIter_tuple hT ?_)
  have hsz : (s.heap.push { cls := .type "tuple", data := .seq #[.float a t, .float b u, .float c x] }).objs.size = s.heap.objs.size + 1 := Heap.size_push ..
  refine ⟨_, [_, s.heap.objs.size], [_], _, _, _, _, rfl, Walks.tuple (A := A.in1) hh _ s.heap.objs.size (by rw [hsz]; exact Nat.ne_of_lt (Nat.lt_succ_self _)) (fItems #[(a, t), (b, u), (c, x)]),
    ⟨⟨_, Heap.get?_push_size _ rfl, rfl, rfl⟩, hT.push _⟩, fun d hd => ?_, by simp [fItems], cmpF_lt (fAt #[(a, t), (b, u), (c, x)]) (fun _ _ => fItems_at), fun v h' tk hP hk => ?_⟩
  · show d < ((s.heap.push _).push _).objs.size
    rw [Heap.size_push, hsz]
    rcases List.mem_cons.mp hd with rfl | hd
    · rw [hsz]; exact Nat.lt_succ_self _
    · rcases List.mem_cons.mp hd with rfl | hd
      · exact Nat.lt_succ_of_lt (Nat.lt_succ_self _)
      · cases hd
  · have hold : ∀ d o, s.heap.get? d = some o → h'.get? d = some o := fun d o e => by
      refine hk d o (fun hm => ?_) (Heap.get?_push_of_some _ (Heap.get?_push_of_some _ e))
      rcases List.mem_cons.mp hm with e1 | hm
      · have := Heap.lt_size e; rw [e1, hsz] at this; exact Nat.lt_irrefl _ (Nat.lt_of_succ_lt this)
      · cases hm
    have hv : ∃ y, v = .float (fmin3 a b c) y := by
      have hP' : (fItems #[(a, t), (b, u), (c, x)])[argBest (fun i j => flt (fAt #[(a, t), (b, u), (c, x)] i) (fAt #[(a, t), (b, u), (c, x)] j)) 2]? = some v := by
        rw [show 2 = (fItems #[(a, t), (b, u), (c, x)]).size - 1 by simp [fItems]]
        exact hP
      by_cases hba : flt b a = true
      · by_cases hc : flt c b = true
        · have e : argBest (fun i j => flt (fAt #[(a, t), (b, u), (c, x)] i) (fAt #[(a, t), (b, u), (c, x)] j)) 2 = 2 := by simp [argBest, fAt, hba, hc]
          rw [e] at hP'
          exact ⟨x, by simpa [fItems, fmin3, fmin2, hba, hc] using hP'.symm⟩
        · have e : argBest (fun i j => flt (fAt #[(a, t), (b, u), (c, x)] i) (fAt #[(a, t), (b, u), (c, x)] j)) 2 = 1 := by simp [argBest, fAt, hba, hc]
          rw [e] at hP'
          exact ⟨u, by simpa [fItems, fmin3, fmin2, hba, hc] using hP'.symm⟩
      · by_cases hc : flt c a = true
        · have e : argBest (fun i j => flt (fAt #[(a, t), (b, u), (c, x)] i) (fAt #[(a, t), (b, u), (c, x)] j)) 2 = 2 := by simp [argBest, fAt, hba, hc]
          rw [e] at hP'
          exact ⟨x, by simpa [fItems, fmin3, fmin2, hba, hc] using hP'.symm⟩
        · have e : argBest (fun i j => flt (fAt #[(a, t), (b, u), (c, x)] i) (fAt #[(a, t), (b, u), (c, x)] j)) 2 = 0 := by simp [argBest, fAt, hba, hc]
          rw [e] at hP'
          exact ⟨t, by simpa [fItems, fmin3, fmin2, hba, hc] using hP'.symm⟩
    obtain ⟨y, rfl⟩ := hv
    exact h h' tk y (F.grownK hold) (N.grown hold)
theorem divF {a b : UInt64} {t u : Tok} {Q : Value → Shared → Prop} (hz : Float64.isZero b = false) (h : Q (.float (Float64.div a b) s.toks) { s with toks := s.toks + 1 }) :
    wpAny (model prog w) A (binaryOp .Div (.float a t) (.float b u)) Q E s := AutoFloatOps.truediv_1 (by rw [hz]; decide) h
theorem modF {a b : UInt64} {t u : Tok} {Q : Value → Shared → Prop} (hz : Float64.isZero b = false) (h : Q (.float (Float64.divmod a b).snd s.toks) { s with toks := s.toks + 1 }) :
    wpAny (model prog w) A (binaryOp .Mod (.float a t) (.float b u)) Q E s := AutoFloatOps.mod_1 (by rw [hz]; decide) h
end
end Mine
namespace Mine
noncomputable def szv (n : Int) (k : Nat) : Int := 1 + (n.fdiv (15 ^ k)).fmod 15
theorem ints4 {ys : List Value} {a b c d : Int} (h : IntsAre ys [a, b, c, d]) : ∃ t u x y, ys = [.int a t, .int b u, .int c x, .int d y] := by
  cases h with | cons _ t h => cases h with | cons _ u h => cases h with | cons _ x h => cases h with | cons _ y h => cases h; exact ⟨t, u, x, y, rfl⟩
theorem pow15_ne (k : Nat) : (15 : Int) ^ k ≠ 0 := Int.pow_ne_zero (by decide)
theorem pow15_small {k : Int} (h0 : 0 ≤ k) (h4 : k < 4) : ((15 : Int) ^ k.toNat).natAbs < 1073741824 := by
  have : k = 0 ∨ k = 1 ∨ k = 2 ∨ k = 3 := by lia
  rcases this with rfl | rfl | rfl | rfl <;> decide
end Mine
end
section
open PySem PySem.W PyProof.Rows PySem.Calls
set_option maxRecDepth 100000
set_option maxHeartbeats 1000000
namespace Mine
section
variable {prog : Program} {w : World} {A : Around} {E : Value → Shared → Prop} {s : Shared} {h₀ : Heap} {L : Addr} {m : Str → Option Value} {news : List (Addr × Obj)}
theorem adjust_upto (a n : Nat) (ha : a ≤ n) : Builtin.Slice.sliceAdjust none (some (a : Int)) 1 (n : Int) = ((0 : Int), (a : Int)) := by
  unfold Builtin.Slice.sliceAdjust
  have h1 : ¬ ((1 : Int) < 0) := by lia
  have h2 : ¬ ((a : Int) < 0) := by lia
  simp only [h1, h2, if_false]
  congr 1
  lia
theorem places_upto (a : Nat) : Builtin.Slice.slicePlaces (0 : Int) (a : Int) 1 = a := by
  unfold Builtin.Slice.slicePlaces
  have h1 : (1 : Int) > 0 := by lia
  simp only [h1, if_true, Int.ediv_one]
  split <;> lia
theorem sliceApplied_upto {sl : Addr} {a n : Nat} {u : Tok} {Q : Int × Int × Nat → Shared → Prop} (hs : s.heap.IsSliceOf sl .none (.int a u) .none) (ha : a ≤ n) (h : Q ((0 : Int), 1, a) s) :
    wpAny (model prog w) A (Builtin.Slice.sliceApplied (.ref sl) (pure (n : Int))) Q E s := by
  obtain ⟨os, hos, hcs, hds⟩ := id hs
  unfold Builtin.Slice.sliceApplied Builtin.Slice.sliceFields
  refine wpAny_bind (wpAny_bind (wpAny_field hos hds (x := .none) rfl (wpAny_bind (wpAny_field hos hds (x := .int a u) rfl (wpAny_bind (wpAny_field hos hds (x := .none) rfl (wpAny_pure ?_)))))))
  refine wpAny_bind (slicePart_none ?_)
  show wpAny _ _ (if ((1 : Int) == 0) = true then _ else _) _ _ s
  rw [if_neg (by decide)]
  refine wpAny_bind (slicePart_none (wpAny_bind (slicePart_int (wpAny_bind (wpAny_pure ?_)))))
  show wpAny _ _ (match Builtin.Slice.sliceAdjust none (some (a : Int)) 1 (n : Int) with | (lo, hi) => pure (lo, (1 : Int), Builtin.Slice.slicePlaces lo hi 1)) _ _ s
  rw [adjust_upto a n ha]
  show wpAny _ _ (pure ((0 : Int), (1 : Int), Builtin.Slice.slicePlaces (0 : Int) (a : Int) 1)) _ _ s
  rw [places_upto a]
  exact wpAny_pure h
theorem pick_upto (xs : Array Value) (a : Nat) : ((List.range a).filterMap fun (k : Nat) => xs[((0 : Int) + (k : Int) * 1).toNat]?).toArray = (xs.toList.take a).toArray := by
  have e : (fun (k : Nat) => xs[((0 : Int) + (k : Int) * 1).toNat]?) = fun k => xs[0 + k]? := by
    funext k
    have : ((0 : Int) + (k : Int) * 1).toNat = 0 + k := by lia
    rw [this]
  rw [e]
  have := pick_run xs 0 a
  rw [List.filterMap_map] at this
  have e2 : ((fun x => xs[x]?) ∘ fun x => 0 + x) = fun k => xs[0 + k]? := rfl
  rw [e2] at this
  rw [this, List.drop_zero]
theorem getItem_tuple_upto {t sl : Addr} {items : Array Value} {a : Nat} {u : Tok} {Q : Value → Shared → Prop} (ht : IsTup s.heap t items) (hs : s.heap.IsSliceOf sl .none (.int a u) .none) (ha : a < items.size)
    (h : Q (.ref s.heap.objs.size) { s with heap := s.heap.push { cls := .type "tuple", data := .seq (items.toList.take a).toArray } })
    (hsz : items.size ≤ sizeLine) : wpAny (model prog w) A (getItem (.ref t) (.ref sl)) Q E s := by
  have hdrop : sizeOk (.seq (items.toList.take a).toArray) := by
    show (items.toList.take a).toArray.size ≤ sizeLine
    rw [List.size_toArray, List.length_take, Array.length_toList]
    lia
  obtain ⟨os, hos, hcs, hds⟩ := id hs
  have hTs : s.TypeIs (.ref sl) "slice" := ⟨os, hos, hcs⟩
  unfold getItem
  try with_reducible refine wpAny_holding ?_
  first | refine wpAny_bind (wpAny_pure ?_) | skip
  refine wpAny_bind (wpAny_sequenceKey ht.typeIs (by decide) ?_)
  refine wpAny_bind (wpAny_callSpecial?_slot (name := Str.ofString "__getitem__") ht.typeIs slot_tuple_getitem
    (wpAny_call_entry slot_tuple_getitem ht.typeIs entry_tuple_getitem ?_ (args_tuple_getitem _ _)))
  show wpAny _ _ (Builtin.Tuple.tupleItemsOf (.ref t) >>= _) _ _ s
  refine wpAny_bind (tupleItemsOf_ ht ?_)
  refine wpAny_bind (wpAny_typeOf hTs ?_)
  rw [if_pos (by decide)]
  refine wpAny_bind (sliceApplied_upto hs (Nat.le_of_lt ha) ?_)
  have hno : ¬ (((0 : Int) == 0 && (1 : Int) == 1 && a == items.size) = true) := by
    have : (a == items.size) = false := by rw [beq_eq_false_iff_ne]; lia
    rw [this]; simp
  show wpAny _ _ (if ((0 : Int) == 0 && (1 : Int) == 1 && a == items.size) = true then _ else _) _ _ s
  rw [if_neg hno, pick_upto items a]
  first
    | exact wpAny_bind (m := Builtin.Tuple.tupleExact _) (wpAny_newObj_type (wpAny_pure ⟨_, rfl, wpAny_pure h⟩) hdrop)
    | exact wpAny_bind (m := Builtin.Tuple.tupleExact _) (wpAny_newObj_type (wpAny_bind (wpAny_pure (wpAny_pure ⟨_, rfl, wpAny_pure h⟩))) hdrop)
    | exact wpAny_bind (wpAny_bind (m := Builtin.Tuple.tupleExact _) (wpAny_newObj_type (wpAny_pure (wpAny_pure ⟨_, rfl, wpAny_pure h⟩)) hdrop))
    | exact wpAny_bind (wpAny_bind (m := Builtin.Tuple.tupleExact _) (wpAny_newObj_type (wpAny_pure ⟨_, rfl, wpAny_pure h⟩) hdrop))
theorem getItem_tuple_all {t sl : Addr} {items : Array Value} {u : Tok} {Q : Value → Shared → Prop} (ht : IsTup s.heap t items) (hs : s.heap.IsSliceOf sl .none (.int items.size u) .none)
    (h : Q (.ref t) s) : wpAny (model prog w) A (getItem (.ref t) (.ref sl)) Q E s := by
  obtain ⟨os, hos, hcs, hds⟩ := id hs
  have hTs : s.TypeIs (.ref sl) "slice" := ⟨os, hos, hcs⟩
  unfold getItem
  try with_reducible refine wpAny_holding ?_
  first | refine wpAny_bind (wpAny_pure ?_) | skip
  refine wpAny_bind (wpAny_sequenceKey ht.typeIs (by decide) ?_)
  refine wpAny_bind (wpAny_callSpecial?_slot (name := Str.ofString "__getitem__") ht.typeIs slot_tuple_getitem
    (wpAny_call_entry slot_tuple_getitem ht.typeIs entry_tuple_getitem ?_ (args_tuple_getitem _ _)))
  show wpAny _ _ (Builtin.Tuple.tupleItemsOf (.ref t) >>= _) _ _ s
  refine wpAny_bind (tupleItemsOf_ ht ?_)
  refine wpAny_bind (wpAny_typeOf hTs ?_)
  rw [if_pos (by decide)]
  refine wpAny_bind (sliceApplied_upto hs (Nat.le_refl _) ?_)
  show wpAny _ _ (if ((0 : Int) == 0 && (1 : Int) == 1 && items.size == items.size) = true then _ else _) _ _ s
  rw [if_pos (by simp)]
  refine wpAny_bind (m := Builtin.Tuple.tupleIsExact _) ?_
  unfold Builtin.Tuple.tupleIsExact
  refine wpAny_bind (wpAny_typeOf ht.typeIs (wpAny_pure ?_))
  rw [if_pos (by decide)]
  refine wpAny_bind (wpAny_rule ?_)
  first
    | exact wpAny_pure ⟨_, rfl, wpAny_pure h⟩
    | exact wpAny_bind (wpAny_pure (wpAny_pure ⟨_, rfl, wpAny_pure h⟩))
    | exact wpAny_bind (wpAny_pure ⟨_, rfl, wpAny_pure h⟩)
theorem sliceT_upto {value slice : Expr} {t : Addr} {items : Array Value} {a : Int} {zs : List Value} {u : Tok} {Q : Value → Shared → Prop}
    (F : Fr h₀ L s.heap m) (N : News h₀ L s.heap news) (ht : IsTup s.heap t items) (h0 : 0 ≤ a) (ha : a < items.size) (e : items.toList.take a.toNat = zs)
    (h : ∀ D h', Fr h₀ L h' m → News h₀ L h' ((D, tupOb zs.toArray) :: news) → (∀ p ∈ news, p.1 < D) → Q (.ref D) { s with heap := h' })
    (hs : subscripted slice false (.ref t) (.ref s.heap.objs.size) = operate [.ref s.heap.objs.size, .ref t] (getItem (.ref t) (.ref s.heap.objs.size)))
    (hg : ∀ r, letTemporaryGo value (.ref t) r = pure ()) (hsz : items.size ≤ sizeLine) :
    wpAny (model prog w) A (subscriptTail value slice (.ref t) (.ref s.heap.objs.size)) Q E { s with heap := s.heap.push { cls := .type "slice", data := .fields #[.none, .int a u, .none] } } := by
  obtain ⟨n, rfl⟩ := Int.eq_ofNat_of_zero_le h0
  subst e
  have ht' : IsTup (s.heap.push { cls := .type "slice", data := .fields #[.none, .int n u, .none] }) t items := ht.keeps fun _ _ e => Heap.get?_push_of_some _ e
  refine subscriptTail_ops (s := { s with heap := s.heap.push { cls := .type "slice", data := .fields #[.none, .int n u, .none] } }) ht'.typeIs slot_tuple_getitem.lookup
    (getItem_tuple_upto ht' (Heap.IsSliceOf.new ..) (by lia) ?_ hsz) hs hg
  have N1 := News.push (F.push { cls := .type "slice", data := .fields #[.none, .int n u, .none] }) (N.grown fun _ _ e => Heap.get?_push_of_some _ e) (tupOb (items.toList.take n).toArray)
  rw [Heap.size_push] at N1
  show Q (.ref (s.heap.push _).objs.size) _
  rw [Heap.size_push]
  exact h _ _ ((F.push _).push _) N1 fun p hp => Nat.lt_succ_of_lt (Heap.lt_size (N p hp).1)
theorem sliceT_all {value slice : Expr} {t : Addr} {items : Array Value} {a : Int} {u : Tok} {Q : Value → Shared → Prop}
    (F : Fr h₀ L s.heap m) (N : News h₀ L s.heap news) (ht : IsTup s.heap t items) (ha : a = items.size)
    (h : ∀ h', Fr h₀ L h' m → News h₀ L h' news → Q (.ref t) { s with heap := h' })
    (hs : subscripted slice false (.ref t) (.ref s.heap.objs.size) = operate [.ref s.heap.objs.size, .ref t] (getItem (.ref t) (.ref s.heap.objs.size)))
    (hg : ∀ r, letTemporaryGo value (.ref t) r = pure ()) :
    wpAny (model prog w) A (subscriptTail value slice (.ref t) (.ref s.heap.objs.size)) Q E { s with heap := s.heap.push { cls := .type "slice", data := .fields #[.none, .int a u, .none] } } := by
  subst ha
  have ht' : IsTup (s.heap.push { cls := .type "slice", data := .fields #[.none, .int items.size u, .none] }) t items := ht.keeps fun _ _ e => Heap.get?_push_of_some _ e
  refine subscriptTail_ops (s := { s with heap := s.heap.push { cls := .type "slice", data := .fields #[.none, .int items.size u, .none] } }) ht'.typeIs slot_tuple_getitem.lookup
    (getItem_tuple_all ht' (Heap.IsSliceOf.new ..) ?_) hs hg
  exact h _ (F.push _) (N.grown fun _ _ e => Heap.get?_push_of_some _ e)
theorem sumT_drop {t : Addr} {vs : List Value} {ns : List Int} {Q : Value → Shared → Prop} (hh : A.handled = none) (F : Fr h₀ L s.heap m) (N : News h₀ L s.heap ((t, tupOb vs.toArray) :: news)) (hi : IntsAre vs ns)
    (h : ∀ h' tk t', Fr h₀ L h' m → News h₀ L h' news → Q (.int ns.sum t') { s with heap := h', toks := tk }) :
    wpAny (model prog w) A (call (.builtin "sum") [.ref t]) Q E s :=
  ktm_sumK hh F N (.head _) hi fun h' tk t' F' N' => h h' tk t' F' fun p hp => N' p (.tail _ hp)
end
end Mine
end
section
open PySem PySem.W PyProof.Rows PySem.Calls
set_option maxRecDepth 100000
namespace Mine
/-- the ints of a set's entries -/
noncomputable def setEs (o : Obj) : List (Int × Value) := match o.data with | .set es _ _ => es.toList | _ => []
noncomputable def obAt (P : Params) (a : Addr) : Obj := match (heapK P).lookup a with | some o => o | _ => { cls := .none, data := .dict #[] }
noncomputable def b1S (P : Params) (k : Int) : Bool := (setEs (obAt P 50)).any fun e => Value.isInt k e.2
noncomputable def okV (a : Int) : Value → Bool | .int j _ => a == hashInt j | _ => false
theorem okV_of {a : Int} {v : Value} (h : okV a v = true) : ∃ k, Value.isInt k v = true ∧ a = hashInt k := by
  unfold okV at h
  split at h
  · rename_i j t
    exact ⟨j, by simp [Value.isInt], by simpa using h⟩
  · cases h
theorem okAll (P : Params) : (setEs (obAt P 50)).all (fun e => okV e.1 e.2 && e.2.scannable) = true := by kernel_rfl
theorem b1_look (P : Params) : (heapK P).lookup 50 = some (obAt P 50) := by kernel_rfl
theorem setOf_b1 {prog : Program} {w : World} {h : Heap} {P : Params} (X : (heapK P).In h) : h.SetOf (intKind prog w) 50 (b1S P) 27 := by
  have e0 : (setEs (obAt P 50)).length = 27 := by kernel_rfl
  refine ⟨obAt P 50, (setEs (obAt P 50)).toArray, _, _, X _ _ (b1_look P), ⟨by kernel_rfl, by kernel_rfl, by kernel_rfl⟩, (by exact rfl), ?_, ?_, (by rw [List.size_toArray, e0]; decide), (by kernel_rfl), (by rw [List.size_toArray, e0])⟩
  · intro e he
    have h1 := List.all_eq_true.mp (okAll P) e he
    simp only [Bool.and_eq_true] at h1
    obtain ⟨k, h3, h4⟩ := okV_of h1.1
    exact ⟨⟨k, h3, h4⟩, h1.2⟩
  · intro k
    exact List.any_eq_true
theorem b1_sign (P : Params) : b1S P 8288 = true := by kernel_rfl

/-- the dict of table B.3's exceptions -/
noncomputable def b3F (k : Int) : Option Value := findBy Value.isInt entB3.toArray k
theorem b3All : entB3.all (fun e => okV e.hash e.key) = true := by kernel_rfl
theorem b3_look (P : Params) : (heapK P).lookup 61 = some (dictOb entB3 650) := by kernel_rfl
theorem mapOf_b3 {prog : Program} {w : World} {h : Heap} {P : Params} (X : (heapK P).In h) : h.MapOf (intKind prog w) 61 b3F := by
  refine ⟨_, entB3.toArray, 650, X _ _ (b3_look P), ⟨rfl, rfl, rfl⟩, rfl, ?_, fun k => rfl⟩
  intro e he
  have h1 := List.all_eq_true.mp b3All e (by simpa using he)
  obtain ⟨k, h3, h4⟩ := okV_of h1
  exact ⟨k, h3, h4⟩
section
variable {w : World} {A : Around} {E : Value → Shared → Prop} {s : Shared} {h₀ : Heap} {L : Addr} {m : Str → Option Value}
theorem in_b1 {k : Int} {u : Tok} {Q : Value → Shared → Prop} (F : Fr h₀ L s.heap m) (X : (heapK w.params).In h₀) (h : Q (.bool (b1S w.params k)) { s with toks := s.toks + 1 }) :
    wpAny (model pw w) A (compareOp .In (.int k u) (.ref 50)) Q E s :=
  wpAny_inSet_of (intKind_is _ _ _ _) rfl (setOf_b1 (X.keeps F.keep)) h
theorem get_b3_m {pl : Sem Bool} {Q : Value × List Value → Shared → Prop} (F : Fr h₀ L s.heap m) (X : (heapK w.params).In h₀) (h : Q (.builtin "dict.get", [.ref 61]) s) : wpAny (model pw w) A (getMethod (.ref 61) "get" pl) Q E s := by
  have hm := mapOf_b3 (prog := pw) (w := w) (X.keeps F.keep)
  exact getMethod_builtin hm.typeIs PySem.F.plainAttrs_dict PySem.F.slot_dict_get PySem.F.type_dict_get hm.noDict h
theorem call_b3 {k : Int} {u : Tok} {Q : Value → Shared → Prop} (F : Fr h₀ L s.heap m) (X : (heapK w.params).In h₀) (h : Q ((b3F k).getD .none) { s with toks := s.toks + 1 }) :
    wpAny (model pw w) A (call (.builtin "dict.get") [.ref 61, .int k u]) Q E s := by
  have hm := mapOf_b3 (prog := pw) (w := w) (X.keeps F.keep)
  exact call_meetsIn PySem.F.slot_dict_get hm.typeIs PySem.F.entry_dict_get (PySem.F.args_dict_get_2 _ _) (meets_dict_get (intKind pw w) 61 (intKind_is _ _ _ _) rfl) ⟨_, hm, h⟩
theorem call_b3v {k : Int} {v : Option Value} {u : Tok} {Q : Value → Shared → Prop} (F : Fr h₀ L s.heap m) (X : (heapK w.params).In h₀) (hv : b3F k = v) (h : Q (v.getD .none) { s with toks := s.toks + 1 }) :
    wpAny (model pw w) A (call (.builtin "dict.get") [.ref 61, .int k u]) Q E s := call_b3 F X (by rw [hv]; exact h)
end
end Mine
end
section
open PySem PySem.W PyProof.Rows PySem.Calls
set_option maxRecDepth 100000
namespace Mine
section
variable {prog : Program} {w : World} {A : Around} {E : Value → Shared → Prop} {s : Shared} {h₀ : Heap} {L : Addr} {m : Str → Option Value}
theorem replV {x y r : Str} {t u v : Tok} {Q : Value → Shared → Prop} (e : Txt.replace x y (Str.ofString "") = r) (hx : x.length ≤ 4) (hu : u ≠ 0) (hv : v ≠ 0) (huv : u ≠ v) (hyz : (y == Str.ofString "") = false)
    (hq : ∀ t' k, Q (.str r t') { s with toks := k }) : wpAny (model prog w) A (call (.builtin "str.replace") [.str x t, .str y u, .str (Str.ofString "") v]) Q E s :=
  SC.replace hu hv huv hyz (by have : (Str.ofString "").length = 0 := rfl; rw [this]; lia) (fun t' k => by rw [e]; exact hq t' k)
end
theorem iaddL {prog : Program} {w : World} {A : Around} {E : Value → Shared → Prop} {s : Shared} {x y : Str} {t u : Tok} {Q : Value → Shared → Prop} {K L : Nat} (hx : x.length ≤ K) (hy : y.length ≤ L) (hs : K + L ≤ 16777216)
    (h : ∀ t' k, Q (.str (x ++ y) t') { s with toks := k }) : wpAny (model prog w) A (inplaceOp .Add (.str x t) (.str y u)) Q E s :=
  SBL.iadd (fun t' k _ => h t' k) (hsz := by rw [sizeLine_eq]; lia)
theorem pz_len (c : Nat) (a : Int) : (Txt.mul ⟨#[c]⟩ ((a.fmod 7).fdiv 6)).length ≤ 1 := by
  have h := len_mul ⟨#[c]⟩ ((a.fmod 7).fdiv 6)
  have e1 : (⟨#[c]⟩ : Str).length = 1 := rfl
  rw [e1, Int.fmod_eq_emod_of_nonneg _ (by lia), Int.fdiv_eq_ediv_of_nonneg _ (by lia)] at h
  rw [Int.fmod_eq_emod_of_nonneg _ (by lia), Int.fdiv_eq_ediv_of_nonneg _ (by lia)]
  split at h <;> lia
theorem one_len (c : Nat) : (⟨#[c]⟩ : Str).length ≤ 1 := Nat.le_refl _
theorem nil_len : (Str.ofString "").length ≤ 0 := Nat.le_refl _
theorem app_len {x y : Str} {a b : Nat} (hx : x.length ≤ a) (hy : y.length ≤ b) : (x ++ y).length ≤ a + b := by
  rw [Str.length_append]; lia
end Mine
end
section
open PySem PySem.W PyProof.Rows PySem.Calls
set_option maxRecDepth 100000
namespace Mine
/-- a goal at which the walk is to wait -/
noncomputable def Stop (p : Prop) : Prop := p
theorem Stop.mk {p : Prop} (h : Stop p) : p := h
section
variable {prog : Program} {w : World} {A : Around} {E : Value → Shared → Prop} {s : Shared} {env : Env} {h₀ : Heap}
/-- a loop over known items, by one lemma for a turn -/
theorem items_inv {target : Expr} {body : List Stmt} {Q : Flow → Shared → Prop} {ws : List (Addr × String)} {keep : List (Addr × Obj)} (Inv : List Itm → (Str → Option Value) → List (Addr × Obj) → Prop)
    (turn : ∀ a r m n, Inv (a :: r) m n → ∀ v h tk, a.Is v h → Fr h₀ env.locals h m → AllObj ws (fun its => News h₀ env.locals h (its ++ n) →
      wpAny (model prog w) A (assign target env v) (fun _ s₂ => wpAny (model prog w) A (execs body env) (UnrPostW h₀ env.locals { s with heap := h, toks := tk } its (fun m' n' => SubL keep n' ∧ Inv r m' n') Q) E s₂) E { s with heap := h, toks := tk }))
    (fin : ∀ m n, Inv [] m n → ∀ h tk, Fr h₀ env.locals h m → News h₀ env.locals h n → Q .next { s with heap := h, toks := tk }) :
    ∀ (xs : List Itm) (m : Str → Option Value) (n : List (Addr × Obj)), Inv xs m n → ItemsRest prog w A E h₀ env target body Q s ws keep xs m n
  | [], m, n, i => fun h tk F N => fin m n i h tk F N
  | a :: r, m, n, i => fun v h tk hv F => by
    have h1 := turn a r m n i v h tk hv F
    have mono : ∀ (ws : List (Addr × String)) (k k' : List (Addr × Obj) → Prop), (∀ l, k l → k' l) → AllObj ws k → AllObj ws k' := by
      intro ws
      induction ws with
      | nil => intro k k' hk h; exact hk _ h
      | cons w r ih => intro k k' hk h o ho; exact ih _ _ (fun l => hk _) (h o ho)
    refine mono ws _ _ (fun its hN N => ?_) h1
    refine wpAny_mono (hN N) (fun _ s₂ h₂ => wpAny_mono h₂ (fun f s₃ p => ?_) fun _ _ e => e) fun _ _ e => e
    have fin : UnrEndW h₀ env.locals { s with heap := h, toks := tk } its (fun m' n' => SubL keep n' ∧ Inv r m' n') s₃ →
        UnrEndW h₀ env.locals { s with heap := h, toks := tk } its (fun m' n' => SubL keep n' ∧ ItemsRest prog w A E h₀ env target body Q s ws keep r m' n') s₃ := by
      rintro ⟨h', tk', m', n', e, F', N', o, k, i'⟩
      exact ⟨h', tk', m', n', e, F', N', o, k, items_inv Inv turn fin r m' n' i'⟩
    cases f with
    | ret v => exact p
    | brk => exact p
    | next => exact fin p
    | cont => exact fin p
end
theorem News.less {h₀ h : Heap} {L : Addr} {n n' : List (Addr × Obj)} (N : News h₀ L h n) (hs : ∀ p ∈ n', p ∈ n) : News h₀ L h n' := fun p hp => N p (hs p hp)
/-- items that are ints -/
noncomputable def IntItems : List Itm → List Int → Prop
  | [], [] => True
  | .val (.int k _) :: r, k' :: q => k = k' ∧ IntItems r q
  | _, _ => False
theorem IntItems.cons {a : Itm} {r : List Itm} {ks : List Int} (h : IntItems (a :: r) ks) : ∃ k t q, a = .val (.int k t) ∧ ks = k :: q ∧ IntItems r q := by
  cases a with
  | val v =>
    cases v with
    | int k t =>
      cases ks with
      | nil => exact h.elim
      | cons k' q => exact ⟨k, t, q, rfl, by rw [h.1], h.2⟩
    | _ => exact (show False from h).elim
  | _ => exact (show False from h).elim
theorem IntItems.nil {ks : List Int} (h : IntItems [] ks) : ks = [] := by
  cases ks with
  | nil => rfl
  | cons k q => exact (show False from h).elim
theorem one_ne (c : Nat) : ((⟨#[c]⟩ : Str) == Str.ofString "") = false := by
  have e : (⟨#[c]⟩ : Str) ≠ Str.ofString "" := fun h => by
    have h2 := congrArg Str.length h
    cases h2
  simpa using e
noncomputable def tyM (num rest text : Value) (lo bo so : Option Value) : Str → Option Value := fun y => if y = "number" then some num else if y = "rest" then some rest else if y = "text" then some text else if y = "letter" then lo else if y = "base" then bo else if y = "size" then so else none
/-- as ClaimF, where the base heap tells something -/
abbrev ClaimB (H : Heap → Prop) (w : World) (r u : Nat) (f : Addr) (need : List (Addr × Obj)) (vs : List Value) (P : Value → List (Addr × Obj) → Prop) : Prop :=
  ∀ {mean : ExcName → Option Value} {mg mb : Str → Option Value} (dp un : Nat) (gd : Option (List Code)) (cn : Str) (cs : Scope) (a : Addr) (ccd : Value) (cl : List (Str × Addr)) (outer : List Env) (A₀ : Around) (base h₀ : Heap) (L : Addr) (m : Str → Option Value) (s : Shared) (Q E : Value → Shared → Prop),
    H h₀ → Below A₀ base outer h₀ → Fr h₀ L s.heap m → (heapK w.params).In h₀ → News h₀ L s.heap need → Top viewQ (looseW viewQ looseQ) mean mg mb h₀ → cs.kind = .function → dp + r < recursionLimit → un + u < cLine →
    (∀ v new h' tk', P v new → BackK h₀ L m s.heap need new h' → Q v { s with heap := h', toks := tk' }) →
    wpAny (model lawRow.prog w) (ktrTop dp un gd cn cs L a ccd cl outer) (call (.ref f) vs) Q E s
/-- facts on addresses that lia is not to see -/
noncomputable def ApN (D : Addr) (l : List (Addr × Obj)) : Prop := ∀ q ∈ l, q.1 ≠ D
theorem ApN.mk {p : Addr × Obj} {l : List (Addr × Obj)} (h : ∀ q ∈ l, q.1 ≠ p.1) : ApN p.1 l := h
theorem ApN.l {D a : Addr} {o : Obj} {l : List (Addr × Obj)} (h : ApN D l) (hm : (a, o) ∈ l) : @Ne Nat a D := h _ hm
theorem ApN.r {D a : Addr} {o : Obj} {l : List (Addr × Obj)} (h : ApN D l) (hm : (a, o) ∈ l) : @Ne Nat D a := fun e => h _ hm e.symm
noncomputable def NeA (a b : Addr) : Prop := @Ne Nat a b
theorem NeA.l {a b : Addr} (h : NeA a b) : @Ne Nat a b := h
theorem NeA.r {a b : Addr} (h : NeA a b) : @Ne Nat b a := Ne.symm h
theorem item_strH {prog : Program} {w : World} {A : Around} {E : Value → Shared → Prop} {s : Shared} {x y : Str} {i : Int} {t u : Tok} {Q : Value → Shared → Prop} {value slice : Expr} (h : 0 ≤ i ∧ i < x.length) (hx : x.length ≤ 4) (hy : Txt.item x i = y)
    (hs : subscripted slice false (.str x t) (.int i u) = operate [.str x t, .int i u] (getItem (.str x t) (.int i u)))
    (ht : ∀ r, letTemporaryGo value (.str x t) r = pure ())
    (hq : Q (.str y s.toks) { s with toks := s.toks + 1 }) : wpAny (model prog w) A (subscriptTail value slice (.str x t) (.int i u)) Q E s := by
  subst hy
  exact item_str (fitsSsize_of (N := 9223372036854775808) (by lia) (by lia) (Int.le_refl _)) (by lia) h.2 (fun _ => hq) hs ht
end Mine
end
section
open PySem PySem.W PyProof.Rows PySem.Calls
set_option maxRecDepth 100000
namespace Mine
section
variable {prog : Program} {w : World} {A : Around} {E : Value → Shared → Prop} {s : Shared} {h₀ : Heap} {L : Addr} {m : Str → Option Value} {env : Env}
theorem indexV {x y : Str} {t u : Tok} {i : Int} {Q : Value → Shared → Prop} (hA : A.handled = none) (hf : Txt.find x y = i) (hi : 0 ≤ i) (hq : Q (.int i s.toks) { s with toks := s.toks + 1 }) :
    wpAny (model prog w) A (call (.builtin "str.index") [.str x t, .str y u]) Q E s :=
  index_or hA (fun h => by lia) (fun _ _ => hf ▸ hq)
/-- the source of a comprehension with one test: a text -/
noncomputable def SrcTxt (prog : Program) (w : World) (A : Around) (h₀ : Heap) (L : Addr) (m : Str → Option Value) (env : Env) (ct elt : Expr) (x : Str) (scope : Scope) (cl : List (Str × Addr)) (Fin : Shared → List Value → List (Addr × Obj) → Prop) (xv : Value) (s₁ : Shared) : Prop :=
  ∃ y t news, xv = .str y t ∧ A.handled = none ∧ Fr h₀ L s₁.heap m ∧ News h₀ L s₁.heap news ∧ y.cps.size ≤ sizeLine ∧
    ∀ g, LCt.CompRestT prog w A h₀ L m env ct elt x scope cl { s₁ with heap := g } (fun _ => True) (SignAt y) (Fin { s₁ with heap := g }) y.cps.size 0 [] news
theorem assign_compTxt {ct elt iter : Expr} {x y : Str} {px py : Pos} {scope : Scope} {cl : List (Str × Addr)} {pos spos : Pos} {Q : Flow → Shared → Prop} (_F₀ : Fr h₀ L s.heap m) (hLe : env.locals = L)
    (hsw : swapsWith (.ListComp elt [⟨.Name x px, iter, [ct], 0⟩] scope pos) (some (.Name y py)) spos.line env = pure true)
    (hclos : closureFor scope env = pure cl) (hcell : ∀ z ∈ scope.names, z.2 ≠ .cell) (hkind : scope.kind = .function)
    (hnames : ∀ z ∈ scope.names, z.2 = .local → scope.names.lookup z.1 = some .local) (hx : scope.names.lookup x = some .local)
    (hy : env.kindOf y = some .local) (hp : (env.scope.kind == .class || (env.scope.kind == .module && env.locals != env.globals)) = false)
    (h : wpAny (model prog w) A (eval iter env) (SrcTxt prog w A h₀ L m env ct elt x scope cl (fun s₂ => LCg.FinA h₀ L m s₂ y Q)) E s)
    (hs : ∀ x, foldedSetIterable iter env x = pure x := by intro _; rfl) :
    wpAny (model prog w) A (exec (.Assign [.Name y py] (.ListComp elt [⟨.Name x px, iter, [ct], 0⟩] scope pos) spos) env) Q E s := by
  subst hLe
  rw [exec_Assign_Name_used _ _ _ _ hsw]
  refine wpAny_bind (wpAny_standAt (wpAny_bind ?_))
  show wpAny _ A (do let _ ← comprehension (.ListComp elt [⟨.Name x px, iter, [ct], 0⟩] scope pos) scope env _ (newList []) false (eval iter env) (some (assign (.Name y py) env))) _ _ s
  refine wpAny_bind (wpAny_mono (wpAny_comprehension_free (use := some (assign (.Name y py) env)) (Q := fun _ s' => Q .next s') rfl hs hclos hkind hnames
    (wpAny_mono h (fun xv s₁ h₁ => ?_) fun _ _ e => e)) (fun _ s' hq => wpAny_pure (wpAny_pure hq)) fun _ _ e => e)
  obtain ⟨z, t, news, rfl, hh, F, N, hsz, R⟩ := h₁
  have up : ∀ (o' : Obj) b o, s₁.heap.get? b = some o → (s₁.heap.push o').get? b = some o := fun _ _ _ e => Heap.get?_push_of_some _ e
  have key : ∀ (ty : String) (o' : Obj) (RR : Value → Addr → Result → Shared → Prop), Walks prog w A s₁.heap.objs.size [s₁.heap.objs.size] [s₁.heap.objs.size] z.cps.size (SignAt z) (fun i h => h.IsStrIter s₁.heap.objs.size ty z t i) → (s₁.heap.push o').IsStrIter s₁.heap.objs.size ty z t 0 →
      (∀ D C h tk m' ys news', Fr h₀ env.locals h m → News h₀ env.locals h ((D, LCg.lst ys) :: news') → LCg.Off1 D news' → h.Ns C m' → h₀.get? C = none → h₀.get? D = none → C ≠ env.locals → D ≠ env.locals → C ≠ D → (∀ p ∈ news', p.1 ≠ C) → LCg.FinA h₀ env.locals m { s₁ with heap := s₁.heap.push o' } y Q ys news' → RR (.ref D) C (.ok .next) { s₁ with heap := h, toks := tk }) →
      wpAny (model prog w) A (newList []) (fun acc s₃ => wpAny (model prog w) A (newFunctionEnv scope env.globals cl [] env.qual none .none (some env)) (fun cenv s₄ =>
        codeAny (model prog w) A (.compStart (.ListComp elt [⟨.Name x px, iter, [ct], 0⟩] scope pos) 0 (.ref s₁.heap.objs.size) acc { cenv with scope := relabel scope env }) (RR acc cenv.locals) s₄) E s₃) E { s₁ with heap := s₁.heap.push o' } := by
    intro ty o' RR W st hRR
    refine LCt.block_T W hsz (fun i h st => let ⟨o, ho, _⟩ := st; ⟨o, ho⟩) (fun i h h' o nw st e e' k N' S => ?_) hcell hkind hx st (fun b hb => ?_) (F.keeps (up o')) (N.grown (up o')) (Nat.ne_of_lt F.ns.lt) (next_is_new F) (fun p hp => Nat.ne_of_lt (Heap.lt_size (N p hp).1)) trivial (R _) hRR
    · obtain ⟨o2, q, r⟩ := st
      rw [e] at q
      cases q
      exact ⟨o, e', r⟩
    · show b < (s₁.heap.push _).objs.size
      rw [Heap.size_push, List.mem_singleton.mp hb]
      exact Nat.lt_succ_self _
  have last : ∀ (o' : Obj) D C h tk m' ys news', Fr h₀ env.locals h m → News h₀ env.locals h ((D, LCg.lst ys) :: news') → LCg.Off1 D news' → h.Ns C m' → h₀.get? C = none → h₀.get? D = none → C ≠ env.locals → D ≠ env.locals → C ≠ D → (∀ p ∈ news', p.1 ≠ C) → LCg.FinA h₀ env.locals m { s₁ with heap := s₁.heap.push o' } y Q ys news' →
      compPost (model prog w) A E (some (assign (.Name y py) env)) (fun _ s' => Q .next s') (.ref D) C (.ok .next) { s₁ with heap := h, toks := tk } := by
    intro o' D C h' tk m' ys news' F' N' o1 hn hC₀ hD₀ hCL hDL hCD offC fin
    show wpAny _ A (assign (.Name y py) env (.ref D)) _ _ _
    refine wpAny_assign_Name (wpAny_storeName_local hy F'.ns (fun h₂ hn₂ hs₂ => ?_) hp)
    have hL₀ : h₀.get? env.locals = none := Heap.get?_none_of_le F'.above
    have F₂ : Fr h₀ env.locals h₂ (fun z => if z = y then some (.ref D) else m z) := ⟨hn₂, fun b o e => hs₂.extBut b o (fun q => by rw [q, hL₀] at e; cases e) (F'.keep b o e), F'.above⟩
    refine ⟨m', hn.sameBut hs₂ hCL, fun h'' hs'' => fin D h'' _ (F₂.change hs'' hCL hC₀) (fun p hp' => ?_) o1⟩
    have z : h₂.get? p.1 = some p.2 := hs₂.extBut _ _ (N' p hp').2.1 (N' p hp').1
    refine ⟨hs''.extBut _ _ ?_ z, (N' p hp').2⟩
    rcases List.mem_cons.mp hp' with rfl | hp'
    · exact Ne.symm hCD
    · exact offC p hp'
  cases ha : z.cps.all (· < 128)
  · exact wpAny_pyIter_wide ha (key "str_iterator" _ _ (Walks.strWide hh _ z t) ⟨_, Heap.get?_push_size _ rfl, rfl, rfl⟩ (last _))
  · exact wpAny_pyIter_ascii ha (key "str_ascii_iterator" _ _ (Walks.strAscii hh _ z t) ⟨_, Heap.get?_push_size _ rfl, rfl, rfl⟩ (last _))
open LCg in
theorem restT_txt {ct elt : Expr} {x : Str} {scope : Scope} {cl : List (Str × Addr)} {S : List (Addr × Obj) → Prop} {Fin : List Value → List (Addr × Obj) → Prop} {news : List (Addr × Obj)} {y : Str} (keep : Nat → Bool) (g : Nat → Str)
    (turn : ∀ k t I oI C oC D m₂ ys h tk (E' : Value → Shared → Prop), k ∈ y.cps.toList → NsObj oC m₂ → m₂ x = some (.str ⟨#[k]⟩ t) → Fr h₀ L h m → News h₀ L h ((I, oI) :: (C, oC) :: (D, lst ys) :: news) → Off3 I C D news → ((@Ne Nat I C) ∧ (@Ne Nat I D) ∧ (@Ne Nat C D)) →
      wpAny (model prog w) A (isTrue ct (compEnvC scope cl C env) (eval ct (compEnvC scope cl C env))) (fun ok s' => if ok = true then
        wpAny (model prog w) A (eval elt (compEnvC scope cl C env)) (CompEnd h₀ L m { s with heap := h, toks := tk } I oI C oC D (lst ys) S (fun v news' => keep k = true ∧ news' = news ∧ ∃ t', v = .str (g k) t')) E' s'
        else CompEnd h₀ L m { s with heap := h, toks := tk } I oI C oC D (lst ys) S (fun _ news' => keep k = false ∧ news' = news) Value.none s') E' { s with heap := h, toks := tk })
    (fin : ∀ ys, StrsAre ys ((y.cps.toList.filter keep).map g) → Fin ys news) : LCt.CompRestT prog w A h₀ L m env ct elt x scope cl s S (SignAt y) Fin y.cps.size 0 [] news := by
  have key : ∀ (j i : Nat) (ys : List Value), i + j = y.cps.size → StrsAre ys (((y.cps.toList.take i).filter keep).map g) → LCt.CompRestT prog w A h₀ L m env ct elt x scope cl s S (SignAt y) Fin j i ys news := by
    intro j
    induction j with
    | zero =>
      intro i ys hi hy
      have e : y.cps.toList.take i = y.cps.toList := List.take_of_length_le (by rw [Array.length_toList]; lia)
      rw [e] at hy
      exact LCt.CompRestT.zero (fin ys hy)
    | succ j ih =>
      intro i ys hi hy
      refine LCt.CompRestT.succ ?_
      intro v I oI C oC D m₂ h tk E' hv hC hx F N off ne
      obtain ⟨k, t, hk, rfl⟩ := hv
      have hk2 : y.cps.toList[i]? = some k := by simpa using hk
      have htake : y.cps.toList.take (i + 1) = y.cps.toList.take i ++ [k] := by rw [List.take_add_one, hk2]; rfl
      refine wpAny_mono (turn k t I oI C oC D m₂ ys h tk E' (List.mem_of_getElem? hk2) hC hx F N off ne) (fun ok s₂ hq => ?_) fun _ _ e => e
      cases ok with
      | true =>
        simp only [if_true] at hq ⊢
        refine wpAny_mono hq (fun y' s₃ h3 => ?_) fun _ _ e => e
        obtain ⟨h', tk', nw, e, F', N', off', hS, hkp, hn, t', hy'⟩ := h3
        rw [hn] at N' off' hS
        refine ⟨h', tk', news, e, F', N', off', hS, ?_⟩
        refine ih (i + 1) _ (by lia) ?_
        rw [hy', htake, List.filter_append, List.map_append]
        have : List.map g (List.filter keep [k]) = [g k] := by simp [hkp]
        rw [this]
        exact kct_snoc hy
      | false =>
        simp only [Bool.false_eq_true, if_false] at hq ⊢
        obtain ⟨h', tk', nw, e, F', N', off', hS, hkp, hn⟩ := hq
        rw [hn] at N' off' hS
        refine ⟨h', tk', news, e, F', N', off', hS, ?_⟩
        refine ih (i + 1) _ (by lia) ?_
        rw [htake, List.filter_append, List.map_append]
        have : List.map g (List.filter keep [k]) = [] := by simp [hkp]
        rw [this, List.append_nil]
        exact hy
  exact key y.cps.size 0 [] (by lia) .nil
open LCg in
/-- a comprehension over known items, by one lemma for a turn; what comes back is told by Rel -/
theorem restU_inv {elt : Expr} {x : Str} {scope : Scope} {cl : List (Str × Addr)} {S : List (Addr × Obj) → Prop} {P : Nat → Value → Prop} {Fin : List Value → List (Addr × Obj) → Prop} {news : List (Addr × Obj)} {n : Nat} (Rel : Nat → Value → Prop)
    (turn : ∀ i v I oI C oC D m₂ ys h tk (E' : Value → Shared → Prop), i < n → P i v → NsObj oC m₂ → m₂ x = some v → Fr h₀ L h m → News h₀ L h ((I, oI) :: (C, oC) :: (D, lst ys) :: news) → Off3 I C D news → ((@Ne Nat I C) ∧ (@Ne Nat I D) ∧ (@Ne Nat C D)) →
      wpAny (model prog w) A (eval elt (compEnvC scope cl C env)) (CompEnd h₀ L m { s with heap := h, toks := tk } I oI C oC D (lst ys) S (fun y news' => news' = news ∧ Rel i y)) E' { s with heap := h, toks := tk })
    (fin : ∀ ys, ys.length = n → (∀ i y, ys[i]? = some y → Rel i y) → Fin ys news) : CompRest prog w A h₀ L m env elt x scope cl s S P Fin n 0 [] news := by
  have key : ∀ (j i : Nat) (ys : List Value), i + j = n → ys.length = i → (∀ i y, ys[i]? = some y → Rel i y) → CompRest prog w A h₀ L m env elt x scope cl s S P Fin j i ys news := by
    intro j
    induction j with
    | zero =>
      intro i ys hi hl hy
      exact CompRest.zero (fin ys (by lia) hy)
    | succ j ih =>
      intro i ys hi hl hy
      refine CompRest.succ ?_
      intro v I oI C oC D m₂ h tk E' hv hC hx F N off ne
      refine wpAny_mono (turn i v I oI C oC D m₂ ys h tk E' (by lia) hv hC hx F N off ne) (fun y' s₃ h3 => ?_) fun _ _ e => e
      obtain ⟨h', tk', nw, e, F', N', off', hS, hn, hr⟩ := h3
      rw [hn] at N' off' hS
      refine ⟨h', tk', news, e, F', N', off', hS, ?_⟩
      refine ih (i + 1) _ (by lia) (by simp [hl]) ?_
      intro q z hq
      by_cases hlt : q < ys.length
      · rw [List.getElem?_append_left hlt] at hq
        exact hy q z hq
      · rw [List.getElem?_append_right (Nat.not_lt.mp hlt)] at hq
        have hq0 : q = i := by
          have : q - ys.length < [y'].length := by
            rcases Nat.lt_or_ge (q - ys.length) [y'].length with h | h
            · exact h
            · rw [List.getElem?_eq_none h] at hq; cases hq
          simp at this
          lia
        subst hq0
        rw [hl, Nat.sub_self] at hq
        have e2 : y' = z := by simpa using hq
        rw [← e2]
        exact hr
  exact key n 0 [] (by lia) rfl (fun i y h => by simp at h)
theorem ints_of_rel {ys : List Value} : ∀ {ns : List Int}, ys.length = ns.length → (∀ i y, ys[i]? = some y → ∃ t, y = Value.int (ns.getD i 0) t) → IntsAre ys ns := by
  induction ys with
  | nil =>
    intro ns h _
    cases ns with
    | nil => exact .nil
    | cons _ _ => cases h
  | cons y r ih =>
    intro ns h hr
    cases ns with
    | nil => cases h
    | cons k q =>
      obtain ⟨t, e⟩ := hr 0 y rfl
      rw [e]
      refine .cons k t (ih (by simpa using h) fun i z hz => ?_)
      have := hr (i + 1) z (by simpa using hz)
      simpa using this
end
end Mine
end
section
open PySem PySem.W PyProof.Rows PySem.Calls
local macro_rules | `(tactic| k_room) => `(tactic| ktr_room)
section
open PySem PySem.W PyProof.Rows PySem.Calls
set_option maxRecDepth 100000
set_option maxHeartbeats 0
set_option linter.unusedVariables false
namespace Mine
noncomputable def yF (r g b : UInt64) : UInt64 := Float64.add (Float64.add (Float64.mul 4599075939470750515 r) (Float64.mul 4603489467105573601 g)) (Float64.mul 4592590756007337001 b)
noncomputable def iF (r g b : UInt64) : UInt64 := Float64.sub (Float64.mul 4604840546993784750 (Float64.sub r (yF r g b))) (Float64.mul 4598535507515466056 (Float64.sub b (yF r g b)))
noncomputable def qF (r g b : UInt64) : UInt64 := Float64.add (Float64.mul 4602318531202457272 (Float64.sub r (yF r g b))) (Float64.mul 4601057523306793533 (Float64.sub b (yF r g b)))
theorem f_yiq (w : World) (r g b : UInt64) (t1 t2 t3 : Tok) : ClaimF w 20 80 21 [] [.float r t1, .float g t2, .float b t3] (fun v new => ∃ D u1 u2 u3, v = .ref D ∧ new = [(D, tupOb #[.float (yF r g b) u1, .float (iF r g b) u2, .float (qF r g b) u3])]) := by
  unfold ClaimF
  k_fill
  intro mean mg mb dp un gd cn cs a ccd cl outer A₀ base h₀ L m s Q E Bz Fz Xz Nz Tz hk hd hu hr
  refine wpAny_call ?_
  k_dflt (refine' enterP ?k1 ?k2 ?k3 ?k4 ?k5 ?kA ?kF ?kK ?k6 ?k7 ?k8 ?k9 ?kB ?_ ?c2 ?c3 ?c4 ?c5; (case kA => exact rfl); (case kF => exact rfl); (case kK => assumption); (case k1 => k_asm); (case k2 => k_asm); (case k3 => k_asm); (case k4 => k_asm); (case k5 => k_asm); (case k6 => k_is); (case k7 => k_is); (case k8 => ktr_room); (case k9 => exact BindsTo.of_eq rfl); (case c5 => decide); (case kB => exact locs rfl); (case c2 => exact rfl); (case c3 => exact rfl); (case c4 => exact rfl); k_whole; intro gH L' h' tk' hg FG' F' N' B' X' T'; (try dsimp only); (try k_fold))
  k_steps
  refine hr _ [(_, _)] _ _ ⟨_, _, _, _, rfl, rfl⟩ (BackK.of hg (by assumption) (by assumption) (by assumption) (by assumption) (by intro p hp; exact hp) (by intro p hp q hq; exact nomatch hq))
end Mine
end
section
open PySem PySem.W PyProof.Rows PySem.Calls
set_option maxRecDepth 100000
set_option maxHeartbeats 0
set_option linter.unusedVariables false
namespace Mine
theorem f_hsv (w : World) (r g b : UInt64) (t1 t2 t3 : Tok) (hz : (Float64.cmp (fmin3 r g b) (fmax3 r g b) == some Ordering.eq) = false → Float64.isZero (fmax3 r g b) = false ∧ Float64.isZero (Float64.sub (fmax3 r g b) (fmin3 r g b)) = false ∧ Float64.isZero (Float64.add (fmax3 r g b) (fmin3 r g b)) = false ∧ Float64.isZero (Float64.sub (Float64.sub 4611686018427387904 (fmax3 r g b)) (fmin3 r g b)) = false) : ClaimF w 20 80 35 [] [.float r t1, .float g t2, .float b t3] (fun v new => ∃ D x y u1 u2 u3, v = .ref D ∧ new = [(D, tupOb #[.float x u1, .float y u2, .float (fmax3 r g b) u3])]) := by
  unfold ClaimF
  k_fill
  intro mean mg mb dp un gd cn cs a ccd cl outer A₀ base h₀ L m s Q E Bz Fz Xz Nz Tz hk hd hu hr
  refine wpAny_call ?_
  k_dflt (refine' enterP ?k1 ?k2 ?k3 ?k4 ?k5 ?kA ?kF ?kK ?k6 ?k7 ?k8 ?k9 ?kB ?_ ?c2 ?c3 ?c4 ?c5; (case kA => exact rfl); (case kF => exact rfl); (case kK => assumption); (case k1 => k_asm); (case k2 => k_asm); (case k3 => k_asm); (case k4 => k_asm); (case k5 => k_asm); (case k6 => k_is); (case k7 => k_is); (case k8 => ktr_room); (case k9 => exact BindsTo.of_eq rfl); (case c5 => decide); (case kB => exact locs rfl); (case c2 => exact rfl); (case c3 => exact rfl); (case c4 => exact rfl); k_whole; intro gH L' h' tk' hg FG' F' N' B' X' T'; (try dsimp only); (try k_fold))
  by_cases hq : (Float64.cmp (fmin3 r g b) (fmax3 r g b) == some Ordering.eq) = true
  · clear hz
    (repeat' (first | (k_unfold; (try dsimp only)) | (k_end; wrow_close) | (with_reducible ((k_here; (with_reducible show wpAny _ _ (call (Value.builtin _) [Value.float _ _, Value.float _ _, Value.float _ _]) _ _ _); (with_unfolding_all refine' min3F ?k1 ?k2 ?k3 ?_; (case k1 => with_unfolding_all rfl); (case k2 => k_asm); (case k3 => k_asm); k_whole); intro _ _ _ _ _))) | (with_reducible ((k_here; (with_reducible show wpAny _ _ (call (Value.builtin _) [Value.float _ _, Value.float _ _, Value.float _ _]) _ _ _); (with_unfolding_all refine' max3F ?k1 ?k2 ?k3 ?_; (case k1 => with_unfolding_all rfl); (case k2 => k_asm); (case k3 => k_asm); k_whole); intro _ _ _ _ _))) | walk1 | (dsimp only; walk1) | (leave1; walk_say "STEP leave1"; (try dsimp only)) | fail "no step"))
    all_goals first | (refine hr _ [(_, _)] _ _ ⟨_, _, _, _, _, _, rfl, rfl⟩ (BackK.of hg (by assumption) (by assumption) (by assumption) (by assumption) (by intro p hp; exact hp) (by intro p hp q hq; exact nomatch hq)))
  · obtain ⟨z1, z2, z3, z4⟩ := hz (by simpa using hq)
    (repeat' (first | (k_unfold; (try dsimp only)) | (k_end; wrow_close) | ((with_reducible show wpAny _ _ (binaryOp .Mod (Value.float _ _) (Value.float _ _)) _ _ _); with_reducible (((refine' modF ?k1 ?_; (case k1 => first | assumption | decide +kernel); k_whole)))) | ((with_reducible show wpAny _ _ (binaryOp .Div (Value.float _ _) (Value.float _ _)) _ _ _); with_reducible (((refine' divF ?k1 ?_; (case k1 => first | assumption | decide +kernel); k_whole)))) | (with_reducible ((k_here; (with_reducible show wpAny _ _ (call (Value.builtin _) [Value.float _ _, Value.float _ _, Value.float _ _]) _ _ _); (with_unfolding_all refine' min3F ?k1 ?k2 ?k3 ?_; (case k1 => with_unfolding_all rfl); (case k2 => k_asm); (case k3 => k_asm); k_whole); intro _ _ _ _ _))) | (with_reducible ((k_here; (with_reducible show wpAny _ _ (call (Value.builtin _) [Value.float _ _, Value.float _ _, Value.float _ _]) _ _ _); (with_unfolding_all refine' max3F ?k1 ?k2 ?k3 ?_; (case k1 => with_unfolding_all rfl); (case k2 => k_asm); (case k3 => k_asm); k_whole); intro _ _ _ _ _))) | walk1 | (dsimp only; walk1) | (leave1; walk_say "STEP leave1"; (try dsimp only)) | fail "no step"))
    all_goals first | (refine hr _ [(_, _)] _ _ ⟨_, _, _, _, _, _, rfl, rfl⟩ (BackK.of hg (by assumption) (by assumption) (by assumption) (by assumption) (by intro p hp; exact hp) (by intro p hp q hq; exact nomatch hq)))
end Mine
end
section
open PySem PySem.W PyProof.Rows PySem.Calls
set_option maxRecDepth 100000
set_option maxHeartbeats 0
set_option linter.unusedVariables false
namespace Mine
theorem f_hls (w : World) (r g b : UInt64) (t1 t2 t3 : Tok) (hz : (Float64.cmp (fmin3 r g b) (fmax3 r g b) == some Ordering.eq) = false → Float64.isZero (fmax3 r g b) = false ∧ Float64.isZero (Float64.sub (fmax3 r g b) (fmin3 r g b)) = false ∧ Float64.isZero (Float64.add (fmax3 r g b) (fmin3 r g b)) = false ∧ Float64.isZero (Float64.sub (Float64.sub 4611686018427387904 (fmax3 r g b)) (fmin3 r g b)) = false) : ClaimF w 20 80 28 [] [.float r t1, .float g t2, .float b t3] (fun v new => ∃ D x y u1 u2 u3, v = .ref D ∧ new = [(D, tupOb #[.float x u1, .float (Float64.div (Float64.add (fmax3 r g b) (fmin3 r g b)) 4611686018427387904) u2, .float y u3])]) := by
  unfold ClaimF
  k_fill
  intro mean mg mb dp un gd cn cs a ccd cl outer A₀ base h₀ L m s Q E Bz Fz Xz Nz Tz hk hd hu hr
  refine wpAny_call ?_
  k_dflt (refine' enterP ?k1 ?k2 ?k3 ?k4 ?k5 ?kA ?kF ?kK ?k6 ?k7 ?k8 ?k9 ?kB ?_ ?c2 ?c3 ?c4 ?c5; (case kA => exact rfl); (case kF => exact rfl); (case kK => assumption); (case k1 => k_asm); (case k2 => k_asm); (case k3 => k_asm); (case k4 => k_asm); (case k5 => k_asm); (case k6 => k_is); (case k7 => k_is); (case k8 => ktr_room); (case k9 => exact BindsTo.of_eq rfl); (case c5 => decide); (case kB => exact locs rfl); (case c2 => exact rfl); (case c3 => exact rfl); (case c4 => exact rfl); k_whole; intro gH L' h' tk' hg FG' F' N' B' X' T'; (try dsimp only); (try k_fold))
  by_cases hq : (Float64.cmp (fmin3 r g b) (fmax3 r g b) == some Ordering.eq) = true
  · clear hz
    (repeat' (first | (k_unfold; (try dsimp only)) | (k_end; wrow_close) | ((with_reducible show wpAny _ _ (binaryOp .Div (Value.float _ _) (Value.float _ _)) _ _ _); with_reducible (((refine' divF ?k1 ?_; (case k1 => first | assumption | decide +kernel); k_whole)))) | (with_reducible ((k_here; (with_reducible show wpAny _ _ (call (Value.builtin _) [Value.float _ _, Value.float _ _, Value.float _ _]) _ _ _); (with_unfolding_all refine' min3F ?k1 ?k2 ?k3 ?_; (case k1 => with_unfolding_all rfl); (case k2 => k_asm); (case k3 => k_asm); k_whole); intro _ _ _ _ _))) | (with_reducible ((k_here; (with_reducible show wpAny _ _ (call (Value.builtin _) [Value.float _ _, Value.float _ _, Value.float _ _]) _ _ _); (with_unfolding_all refine' max3F ?k1 ?k2 ?k3 ?_; (case k1 => with_unfolding_all rfl); (case k2 => k_asm); (case k3 => k_asm); k_whole); intro _ _ _ _ _))) | walk1 | (dsimp only; walk1) | (leave1; walk_say "STEP leave1"; (try dsimp only)) | fail "no step"))
    all_goals first | (refine hr _ [(_, _)] _ _ ⟨_, _, _, _, _, _, rfl, rfl⟩ (BackK.of hg (by assumption) (by assumption) (by assumption) (by assumption) (by intro p hp; exact hp) (by intro p hp q hq; exact nomatch hq)))
  · obtain ⟨z1, z2, z3, z4⟩ := hz (by simpa using hq)
    (repeat' (first | (k_unfold; (try dsimp only)) | (k_end; wrow_close) | ((with_reducible show wpAny _ _ (binaryOp .Mod (Value.float _ _) (Value.float _ _)) _ _ _); with_reducible (((refine' modF ?k1 ?_; (case k1 => first | assumption | decide +kernel); k_whole)))) | ((with_reducible show wpAny _ _ (binaryOp .Div (Value.float _ _) (Value.float _ _)) _ _ _); with_reducible (((refine' divF ?k1 ?_; (case k1 => first | assumption | decide +kernel); k_whole)))) | (with_reducible ((k_here; (with_reducible show wpAny _ _ (call (Value.builtin _) [Value.float _ _, Value.float _ _, Value.float _ _]) _ _ _); (with_unfolding_all refine' min3F ?k1 ?k2 ?k3 ?_; (case k1 => with_unfolding_all rfl); (case k2 => k_asm); (case k3 => k_asm); k_whole); intro _ _ _ _ _))) | (with_reducible ((k_here; (with_reducible show wpAny _ _ (call (Value.builtin _) [Value.float _ _, Value.float _ _, Value.float _ _]) _ _ _); (with_unfolding_all refine' max3F ?k1 ?k2 ?k3 ?_; (case k1 => with_unfolding_all rfl); (case k2 => k_asm); (case k3 => k_asm); k_whole); intro _ _ _ _ _))) | walk1 | (dsimp only; walk1) | (leave1; walk_say "STEP leave1"; (try dsimp only)) | fail "no step"))
    all_goals first | (refine hr _ [(_, _)] _ _ ⟨_, _, _, _, _, _, rfl, rfl⟩ (BackK.of hg (by assumption) (by assumption) (by assumption) (by assumption) (by intro p hp; exact hp) (by intro p hp q hq; exact nomatch hq)))
end Mine
end
section
open PySem PySem.W PyProof.Rows PySem.Calls
set_option maxRecDepth 100000
set_option maxHeartbeats 0
set_option linter.unusedVariables false
namespace Mine
theorem f_sizes (w : World) (n : Int) (t1 : Tok) (hn : 0 ≤ n) (hn2 : n < 1000000) : ClaimF w 20 80 116 [] [.int n t1] (fun v new => ∃ D u0 u1 u2 u3, v = .ref D ∧ new = [(D, LCg.lst [.int (szv n 0) u0, .int (szv n 1) u1, .int (szv n 2) u2, .int (szv n 3) u3])]) := by
  unfold ClaimF
  k_fill
  intro mean mg mb dp un gd cn cs a ccd cl outer A₀ base h₀ L m s Q E Bz Fz Xz Nz Tz hk hd hu hr
  refine wpAny_call ?_
  k_dflt (refine' enterC ?k1 ?k2 ?k3 ?k4 ?k5 ?kA ?kF ?kK ?k6 ?k7 ?k8 ?k9 ?kB ?kD ?_ ?c2 ?c3 ?c4; (case kA => exact rfl); (case kF => exact rfl); (case kK => assumption); (case k1 => k_asm); (case k2 => k_asm); (case k3 => k_asm); (case k4 => k_asm); (case k5 => k_asm); (case k6 => k_is); (case k7 => k_is); (case k8 => ktr_room); (case k9 => exact BindsTo.of_eq rfl); (case kB => exact rfl); (case kD => decide +kernel); (case c2 => exact rfl); (case c3 => exact rfl); (case c4 => exact rfl); k_whole; intro gH L' h' tk' cells' hg FG' F' N' Y' B' X' T' l1; (try k_lt l1); k_cells Y'; (try simp only [List.cons_append, List.nil_append] at N'); (try dsimp only); (try k_fold))
  (repeat' (first | (k_unfold; (try dsimp only)) | (k_end; wrow_close) | ((with_reducible show wpAny _ _ (binaryOp .FloorDiv (Value.int _ _) (Value.int _ _)) _ _ _); with_reducible (((with_reducible show wpAny _ _ (binaryOp _ (Value.int _ _) (Value.int (HPow.hPow _ _) _)) _ _ _); refine' floordiv_int (pow15_ne _) ?_ (Or.inl (PyProof.noPylong_small ?k2)); (case k2 => exact pow15_small (by lia) (by lia)); k_whole))) | walk1 | (dsimp only; walk1) | (leave1; walk_say "STEP leave1"; (try dsimp only)) | fail "no step"))
  (rename IntsAre _ _ => hI)
  obtain ⟨t, u, x, y, e⟩ := ints4 (a := szv n 0) (b := szv n 1) (c := szv n 2) (d := szv n 3) hI
  subst e
  refine hr _ [(_, _)] _ _ ⟨_, _, _, _, _, rfl, rfl⟩ (BackK.of hg (by assumption) (by assumption) (by assumption) (by assumption) (by intro p hp; exact List.mem_append_left _ hp) (by intro p hp q hq; exact nomatch hq))
end Mine
end
section
open PySem PySem.W PyProof.Rows PySem.Calls
set_option maxRecDepth 100000
namespace Mine
/-- k/64 as a float -/
noncomputable def c64 (k : Int) : UInt64 := Float64.ofFrac false k.natAbs 64
noncomputable def HzF (r g b : UInt64) : Prop := (Float64.cmp (fmin3 r g b) (fmax3 r g b) == some Ordering.eq) = false → Float64.isZero (fmax3 r g b) = false ∧ Float64.isZero (Float64.sub (fmax3 r g b) (fmin3 r g b)) = false ∧ Float64.isZero (Float64.add (fmax3 r g b) (fmin3 r g b)) = false ∧ Float64.isZero (Float64.sub (Float64.sub 4611686018427387904 (fmax3 r g b)) (fmin3 r g b)) = false
section
variable {prog : Program} {w : World} {A : Around} {E : Value → Shared → Prop} {s : Shared}
theorem div64 {a : Int} {t u : Tok} {Q : Value → Shared → Prop} (hA : A.handled = none) (h : 0 ≤ a ∧ a ≤ 60) (hq : Q (.float (c64 a) s.toks) { s with toks := s.toks + 1 }) : wpAny (model prog w) A (binaryOp .Div (.int a t) (.int 64 u)) Q E s := by
  refine Flt.div_ii_fits hA (Nat.lt_of_le_of_lt (by lia : a.natAbs ≤ 2 ^ 10) (Nat.pow_lt_pow_right (by lia) (by lia))) (fun h => by cases h) (fun _ _ => ?_)
  have e : (decide (a < 0) != decide ((64 : Int) < 0)) = false := by
    rw [decide_eq_false (by lia : ¬ a < 0)]; rfl
  rw [e]
  exact hq
theorem roundF {x : UInt64} {k : Int} {t : Tok} {Q : Value → Shared → Prop} (hA : A.handled = none) (hf : Float64.isFinite x = true) (hk : Flt.toInt Float64.nearestOf x = k) (hq : Q (.int k s.toks) { s with toks := s.toks + 1 }) : wpAny (model prog w) A (call (.builtin "round") [.float x t]) Q E s := by
  refine Flt.call_round_float hA (fun h => ?_) (fun h => ?_) (fun _ => hk ▸ hq)
  · exact absurd hf (by unfold Float64.isNaN at h; unfold Float64.isFinite; split at h <;> simp_all)
  · exact absurd hf (by unfold Float64.isInf at h; unfold Float64.isFinite; split at h <;> simp_all)
theorem append_L {h₀ : Heap} {L D : Addr} {m : Str → Option Value} {news news' : List (Addr × Obj)} {xs : List Value} {x : Value} {Q : Value → Shared → Prop} (F : Fr h₀ L s.heap m) (N : News h₀ L s.heap news) (U : Upd D (LCg.lst xs) (LCg.lst (xs ++ [x])) news news') (hl : xs.length ≤ 8)
    (h : ∀ h', Fr h₀ L h' m → News h₀ L h' news' → Q .none { s with heap := h' }) : wpAny (model prog w) A (call (.builtin "list.append") [.ref D, x]) Q E s := by
  rw [← LCg.lst_snoc] at U
  exact append_K (its := xs.toArray) (n := xs.length) F N U h (by rw [List.size_toArray, sizeLine_eq]; lia)
end
end Mine
end
section
open PySem PySem.W PyProof.Rows PySem.Calls
set_option maxRecDepth 100000
namespace Mine
/-- a lamp: the tuple's address, its three levels, their tokens -/
structure Lamp where
  T : Addr
  r : Int
  g : Int
  b : Int
  a : Tok
  c : Tok
  d : Tok
abbrev lamE (l : Lamp) : Addr × Obj := (l.T, tupOb #[.int l.r l.a, .int l.g l.c, .int l.b l.d])
noncomputable def mxX (l : Lamp) : UInt64 := fmax3 (c64 l.r) (c64 l.g) (c64 l.b)
noncomputable def mnX (l : Lamp) : UInt64 := fmin3 (c64 l.r) (c64 l.g) (c64 l.b)
noncomputable def topX (l : Lamp) : UInt64 := Float64.mul (Float64.ofInt 64) (mxX l)
noncomputable def lowX (l : Lamp) : UInt64 := Float64.mul (Float64.ofInt 64) (Float64.sub (Float64.mul (Float64.ofInt 2) (Float64.div (Float64.add (mxX l) (mnX l)) 4611686018427387904)) (mxX l))
noncomputable def lum (l : Lamp) : Int := 30 * l.r + 59 * l.g + 11 * l.b
noncomputable def warm (l : Lamp) : Int := 5990 * l.r - 2773 * l.g - 3217 * l.b
noncomputable def cool (l : Lamp) : Int := 2130 * l.r - 5251 * l.g + 3121 * l.b
noncomputable def mx (l : Lamp) : Int := max (max l.r l.g) l.b
noncomputable def mn (l : Lamp) : Int := min (min l.r l.g) l.b
/-- a small int as a float -/
noncomputable def FI (k : Int) : UInt64 := Float64.ofInt k
/-- what the walk wants of a lamp -/
structure LampOk (l : Lamp) : Prop where
  r : 0 ≤ l.r ∧ l.r ≤ 60
  g : 0 ≤ l.g ∧ l.g ≤ 60
  b : 0 ≤ l.b ∧ l.b ≤ 60
  top : topX l = FI (mx l)
  low : lowX l = FI (mn l)
  hz : (Float64.cmp (fmin3 (c64 l.r) (c64 l.g) (c64 l.b)) (fmax3 (c64 l.r) (c64 l.g) (c64 l.b)) == some Ordering.eq) = false → Float64.isZero (fmax3 (c64 l.r) (c64 l.g) (c64 l.b)) = false ∧ Float64.isZero (Float64.sub (fmax3 (c64 l.r) (c64 l.g) (c64 l.b)) (fmin3 (c64 l.r) (c64 l.g) (c64 l.b))) = false ∧ Float64.isZero (Float64.add (fmax3 (c64 l.r) (c64 l.g) (c64 l.b)) (fmin3 (c64 l.r) (c64 l.g) (c64 l.b))) = false ∧ Float64.isZero (Float64.sub (Float64.sub 4611686018427387904 (fmax3 (c64 l.r) (c64 l.g) (c64 l.b))) (fmin3 (c64 l.r) (c64 l.g) (c64 l.b))) = false
  f1 : Float64.isFinite (Float64.mul (Float64.ofInt 6400) (yF (c64 l.r) (c64 l.g) (c64 l.b))) = true
  n1 : Flt.toInt Float64.nearestOf (Float64.mul (Float64.ofInt 6400) (yF (c64 l.r) (c64 l.g) (c64 l.b))) = lum l
  f2 : Float64.isFinite (Float64.mul (Float64.ofInt 640000) (iF (c64 l.r) (c64 l.g) (c64 l.b))) = true
  n2 : Flt.toInt Float64.nearestOf (Float64.mul (Float64.ofInt 640000) (iF (c64 l.r) (c64 l.g) (c64 l.b))) = warm l
  f3 : Float64.isFinite (Float64.mul (Float64.ofInt 640000) (qF (c64 l.r) (c64 l.g) (c64 l.b))) = true
  n3 : Flt.toInt Float64.nearestOf (Float64.mul (Float64.ofInt 640000) (qF (c64 l.r) (c64 l.g) (c64 l.b))) = cool l
/-- a list of floats -/
inductive FlAre : List Value → List UInt64 → Prop
  | nil : FlAre [] []
  | cons (x : UInt64) (t : Tok) {vs xs} : FlAre vs xs → FlAre (.float x t :: vs) (x :: xs)
theorem FlAre.snoc {x : UInt64} {t : Tok} : ∀ {vs : List Value} {xs : List UInt64}, FlAre vs xs → FlAre (vs ++ [.float x t]) (xs ++ [x])
  | _, _, .nil => .cons x t .nil
  | _, _, .cons y u r => .cons y u r.snoc
/-- the list of tints: refs, the tuples that they stand for, the lamps -/
inductive TinAre : List Value → List (Addr × Obj) → List Lamp → Prop
  | nil : TinAre [] [] []
  | cons (a : Addr) (l : Lamp) (t u v : Tok) {vs S ls} : TinAre vs S ls → TinAre (.ref a :: vs) ((a, tupOb #[.int (lum l) t, .int (warm l) u, .int (cool l) v]) :: S) (l :: ls)
theorem TinAre.snoc {a : Addr} {l : Lamp} {t u v : Tok} : ∀ {vs : List Value} {S : List (Addr × Obj)} {ls : List Lamp}, TinAre vs S ls → TinAre (vs ++ [.ref a]) (S ++ [(a, tupOb #[.int (lum l) t, .int (warm l) u, .int (cool l) v])]) (ls ++ [l])
  | _, _, _, .nil => .cons a l t u v .nil
  | _, _, _, .cons b k x y z r => .cons b k x y z r.snoc
theorem TinAre.len : ∀ {vs : List Value} {S : List (Addr × Obj)} {ls : List Lamp}, TinAre vs S ls → S.length = ls.length
  | _, _, _, .nil => rfl
  | _, _, _, .cons _ _ _ _ _ r => congrArg (· + 1) r.len
theorem TinAre.len2 : ∀ {vs : List Value} {S : List (Addr × Obj)} {ls : List Lamp}, TinAre vs S ls → vs.length = ls.length
  | _, _, _, .nil => rfl
  | _, _, _, .cons _ _ _ _ _ r => congrArg (· + 1) r.len2
theorem FlAre.len : ∀ {vs : List Value} {xs : List UInt64}, FlAre vs xs → vs.length = xs.length
  | _, _, .nil => rfl
  | _, _, .cons _ _ r => congrArg (· + 1) r.len
theorem FlAre.four {xs : List Value} {a b c d : UInt64} (h : FlAre xs [a, b, c, d]) : ∃ t0 t1 t2 t3, xs = [.float a t0, .float b t1, .float c t2, .float d t3] := by
  cases h with | cons _ t0 h => cases h with | cons _ t1 h => cases h with | cons _ t2 h => cases h with | cons _ t3 h => cases h; exact ⟨t0, t1, t2, t3, rfl⟩
theorem TinAre.four {zs : List Value} {S : List (Addr × Obj)} {a b c d : Lamp} (h : TinAre zs S [a, b, c, d]) : ∃ (d0 d1 d2 d3 : Addr) (t : Nat → Tok), zs = [.ref d0, .ref d1, .ref d2, .ref d3] ∧
    S = [(d0, tupOb #[.int (lum a) (t 0), .int (warm a) (t 1), .int (cool a) (t 2)]), (d1, tupOb #[.int (lum b) (t 3), .int (warm b) (t 4), .int (cool b) (t 5)]), (d2, tupOb #[.int (lum c) (t 6), .int (warm c) (t 7), .int (cool c) (t 8)]), (d3, tupOb #[.int (lum d) (t 9), .int (warm d) (t 10), .int (cool d) (t 11)])] := by
  cases h with | cons d0 _ x0 y0 z0 h => cases h with | cons d1 _ x1 y1 z1 h => cases h with | cons d2 _ x2 y2 z2 h => cases h with | cons d3 _ x3 y3 z3 h =>
  cases h
  exact ⟨d0, d1, d2, d3, fun i => [x0, y0, z0, x1, y1, z1, x2, y2, z2, x3, y3, z3].getD i 0, rfl, rfl⟩
theorem TinAre.cls : ∀ {vs : List Value} {S : List (Addr × Obj)} {ls : List Lamp}, TinAre vs S ls → ∀ q ∈ S, q.2.cls = .type "tuple"
  | _, _, _, .nil, q, hq => nomatch hq
  | _, _, _, .cons _ _ _ _ _ r, q, hq => by
    rcases List.mem_cons.mp hq with rfl | hq
    · rfl
    · exact r.cls q hq
theorem pad3 {α : Type} (d : α) : ∀ (S : List α), S.length ≤ 3 → ∃ a b c, (∀ q ∈ S, q = a ∨ q = b ∨ q = c) ∧ (a ∈ S ∨ a = d) ∧ (b ∈ S ∨ b = d) ∧ (c ∈ S ∨ c = d)
  | [], _ => ⟨d, d, d, by simp, .inr rfl, .inr rfl, .inr rfl⟩
  | [a], _ => ⟨a, d, d, by simp, by simp, .inr rfl, .inr rfl⟩
  | [a, b], _ => ⟨a, b, d, by simp, by simp, by simp, .inr rfl⟩
  | [a, b, c], _ => ⟨a, b, c, by simp, by simp, by simp, by simp⟩
  | _ :: _ :: _ :: _ :: _, h => by simp at h
theorem know1 {m : Str → Option Value} {x : Str} {v : Value} (h : m x = some v) : m = fun y => if y = x then some v else m y := by
  funext y
  by_cases e : y = x
  · rw [if_pos e, e, h]
  · rw [if_neg e]
theorem know3 {m : Str → Option Value} {x1 x2 x3 : Str} {v1 v2 v3 : Value} (h1 : m x1 = some v1) (h2 : m x2 = some v2) (h3 : m x3 = some v3) :
    m = fun y => if y = x1 then some v1 else if y = x2 then some v2 else if y = x3 then some v3 else m y := by
  funext y
  by_cases e1 : y = x1
  · rw [if_pos e1, e1, h1]
  · rw [if_neg e1]
    by_cases e2 : y = x2
    · rw [if_pos e2, e2, h2]
    · rw [if_neg e2]
      by_cases e3 : y = x3
      · rw [if_pos e3, e3, h3]
      · rw [if_neg e3]
/-- the invariant of the loop of _law_seen -/
noncomputable def seI (p : Addr × Obj) (es : List Lamp) (A1 A2 A3 : Addr) (its : List Itm) (m : Str → Option Value) (n : List (Addr × Obj)) : Prop :=
  m (Str.ofString "tops") = some (.ref A1) ∧ m (Str.ofString "lows") = some (.ref A2) ∧ m (Str.ofString "tints") = some (.ref A3) ∧ p ∈ n ∧ (∀ l ∈ es, lamE l ∈ n) ∧
  ∃ done todo xs ys zs S, es = done ++ todo ∧ its = todo.map (fun l => Itm.val (.ref l.T)) ∧ (A1, LCg.lst xs) ∈ n ∧ (A2, LCg.lst ys) ∈ n ∧ (A3, LCg.lst zs) ∈ n ∧
    FlAre xs (done.map topX) ∧ FlAre ys (done.map lowX) ∧ TinAre zs S done ∧ (∀ q ∈ S, q ∈ n) ∧ ∀ q ∈ S, ∀ r ∈ p :: es.map lamE, r.1 ≠ q.1
noncomputable abbrev seenNew (R A1 A2 A3 d0 d1 d2 d3 : Addr) (t : Nat → Tok) (p0 p1 p2 p3 : Lamp) : List (Addr × Obj) :=
  [(R, tupOb #[.ref A1, .ref A2, .ref A3]), (A1, LCg.lst [.float (FI (mx p0)) (t 12), .float (FI (mx p1)) (t 13), .float (FI (mx p2)) (t 14), .float (FI (mx p3)) (t 15)]),
   (A2, LCg.lst [.float (FI (mn p0)) (t 16), .float (FI (mn p1)) (t 17), .float (FI (mn p2)) (t 18), .float (FI (mn p3)) (t 19)]), (A3, LCg.lst [.ref d0, .ref d1, .ref d2, .ref d3]),
   (d0, tupOb #[.int (lum p0) (t 0), .int (warm p0) (t 1), .int (cool p0) (t 2)]), (d1, tupOb #[.int (lum p1) (t 3), .int (warm p1) (t 4), .int (cool p1) (t 5)]),
   (d2, tupOb #[.int (lum p2) (t 6), .int (warm p2) (t 7), .int (cool p2) (t 8)]), (d3, tupOb #[.int (lum p3) (t 9), .int (warm p3) (t 10), .int (cool p3) (t 11)])]
theorem ne_cls {h₀ h : Heap} {L : Addr} {n : List (Addr × Obj)} (N : News h₀ L h n) {a b : Addr} {o o' : Obj} (ha : (a, o) ∈ n) (hb : (b, o') ∈ n) (hc : o.cls ≠ o'.cls) : a ≠ b := by
  intro e
  subst e
  exact hc (congrArg Obj.cls (Option.some.inj ((N _ ha).1.symm.trans (N _ hb).1)))
end Mine
end
section
open PySem PySem.W PyProof.Rows PySem.Calls
set_option maxRecDepth 100000
namespace Mine
set_option maxHeartbeats 0 in
theorem cmpFI_all : ((List.range 61).all fun a => (List.range 61).all fun b => (Float64.cmp (Float64.ofInt a) (Float64.ofInt b) == some Ordering.lt) == decide (a < b)) = true := by decide +kernel
theorem cmpFI {a b : Int} (ha : 0 ≤ a ∧ a ≤ 60) (hb : 0 ≤ b ∧ b ≤ 60) : (Float64.cmp (FI a) (FI b) == some Ordering.lt) = decide (a < b) := by
  obtain ⟨n, rfl⟩ := Int.eq_ofNat_of_zero_le ha.1
  obtain ⟨k, rfl⟩ := Int.eq_ofNat_of_zero_le hb.1
  have h := List.all_eq_true.mp (List.all_eq_true.mp cmpFI_all n (List.mem_range.mpr (by lia))) k (List.mem_range.mpr (by lia))
  have h2 : (Float64.cmp (FI n) (FI k) == some Ordering.lt) = decide (n < k) := by simpa [FI] using h
  rw [h2]
  by_cases e : n < k
  · rw [decide_eq_true e, decide_eq_true (by lia)]
  · rw [decide_eq_false e, decide_eq_false (by lia)]
section
variable {prog : Program} {w : World} {A : Around} {E : Value → Shared → Prop} {s : Shared}
theorem call_float_lt {x y : UInt64} {t u : Tok} {Q : Value → Shared → Prop} (h : Q (.bool (Float64.cmp x y == some Ordering.lt)) s) :
    wpAny (model prog w) A (call (.builtin "float.__lt__") [.float x t, .float y u]) Q E s := by
  refine wpAny_call_entry F.slot_float_lt (typeIs_float s x t) F.entry_float_lt ?_ (F.args_float_lt_2 _ _)
  show wpAny _ _ (ret (.bool (Float64.cmp x y == some Ordering.lt))) _ _ s
  exact wpAny_pure ⟨_, rfl, h⟩
theorem kas_lt_fi {a b : Int} {t u : Tok} {Q : Bool → Shared → Prop} (ha : 0 ≤ a ∧ a ≤ 60) (hb : 0 ≤ b ∧ b ≤ 60) (h : Q (decide (a < b)) s) : wpAny (model prog w) A (keyLt' oneType' (.float (FI a) t) (.float (FI b) u)) Q E s := by
  rw [keyLt'_oneType, oneLt'_eq]
  simp only [if_true]
  refine wpAny_bind (wpAny_cRoomFor_byValue rfl ?_)
  refine wpAny_bind (wpAny_callSpecialIfBound?_slot (typeIs_float s (FI a) t) F.slot_float_lt (call_float_lt ?_))
  rw [cmpFI ha hb]
  exact wpAny_truthy_bool h
end
end Mine
end
section
open PySem PySem.W PyProof.Rows PySem.Calls
set_option maxRecDepth 100000
set_option maxHeartbeats 0
namespace Mine
/-- the sort's questions, answered by lt -/
noncomputable def runO {α : Type} (n : Nat) (lt : Nat → Nat → Bool) : KasT α → Option α
  | .ret a => some a
  | .ask i j k => if i < n ∧ j < n then runO n lt (k (lt i j)) else none
theorem runO_wp {α : Type} {n : Nat} {lt : Nat → Nat → Bool} {cmp : Nat → Nat → (Bool → Shared → Prop) → Shared → Prop} {Q : α → Shared → Prop} (h : ∀ i j, i < n → j < n → ∀ C s, C (lt i j) s → cmp i j C s) :
    ∀ (t : KasT α) (s : Shared) (a : α), runO n lt t = some a → Q a s → t.kasWp cmp Q s
  | .ret b, s, a, e, q => by
    have e' : b = a := Option.some.inj e
    subst e'
    exact q
  | .ask i j k, s, a, e, q => by
    unfold runO at e
    by_cases c : i < n ∧ j < n
    · rw [if_pos c] at e
      exact h i j c.1 c.2 _ s (runO_wp h (k (lt i j)) s a e q)
    · rw [if_neg c] at e
      cases e
theorem runO_congr {α : Type} {n : Nat} {lt lt' : Nat → Nat → Bool} (h : ∀ i j, i < n → j < n → lt i j = lt' i j) : ∀ (t : KasT α), runO n lt t = runO n lt' t
  | .ret _ => rfl
  | .ask i j k => by
    unfold runO
    by_cases c : i < n ∧ j < n
    · rw [if_pos c, if_pos c, h i j c.1 c.2]
      exact runO_congr h _
    · rw [if_neg c, if_neg c]
noncomputable def okO (r : List Nat) : Bool := match runO 4 (fun i j => decide (r.getD i 0 < r.getD j 0)) (kas_sort 4) with
  | some p => match p.toList with
    | [a, b, c, d] => [a, b, c, d].isPerm [0, 1, 2, 3] && decide (r.getD a 0 ≤ r.getD b 0) && decide (r.getD b 0 ≤ r.getD c 0) && decide (r.getD c 0 ≤ r.getD d 0)
    | _ => false
  | none => false
theorem okO_all : ((List.range 4).all fun a => (List.range 4).all fun b => (List.range 4).all fun c => (List.range 4).all fun d => okO [a, b, c, d]) = true := by decide +kernel
noncomputable def rk (l : List Int) (x : Int) : Nat := l.foldr (fun k n => (if k < x then 1 else 0) + n) 0
theorem rk_mono (l : List Int) {x y : Int} (h : x ≤ y) : rk l x ≤ rk l y := by
  induction l with
  | nil => exact Nat.le_refl _
  | cons k r ih =>
    show (if k < x then 1 else 0) + rk r x ≤ (if k < y then 1 else 0) + rk r y
    by_cases h1 : k < x
    · rw [if_pos h1, if_pos (by lia)]; lia
    · rw [if_neg h1]; lia
theorem rk_lt {l : List Int} {x y : Int} (hx : x ∈ l) (h : x < y) : rk l x < rk l y := by
  induction l with
  | nil => cases hx
  | cons k r ih =>
    show (if k < x then 1 else 0) + rk r x < (if k < y then 1 else 0) + rk r y
    rcases List.mem_cons.mp hx with rfl | hx
    · have := rk_mono r (Int.le_of_lt h)
      rw [if_neg (by lia), if_pos h]; lia
    · have := ih hx
      by_cases h1 : k < x
      · rw [if_pos h1, if_pos (by lia)]; lia
      · rw [if_neg h1]; lia
theorem rk_le {l : List Int} {x : Int} : rk l x ≤ l.length := by
  induction l with
  | nil => exact Nat.le_refl _
  | cons k r ih =>
    show (if k < x then 1 else 0) + rk r x ≤ r.length + 1
    split <;> lia
theorem rk_bound {l : List Int} {x : Int} (hx : x ∈ l) : rk l x < l.length := by
  induction l with
  | nil => cases hx
  | cons k r ih =>
    show (if k < x then 1 else 0) + rk r x < r.length + 1
    rcases List.mem_cons.mp hx with rfl | hx
    · have := rk_le (l := r) (x := x)
      rw [if_neg (by lia)]; lia
    · have := ih hx
      split <;> lia
theorem rk_iff {l : List Int} {x y : Int} (hx : x ∈ l) (_hy : y ∈ l) : decide (x < y) = decide (rk l x < rk l y) := by
  by_cases h : x < y
  · rw [decide_eq_true h, decide_eq_true (rk_lt hx h)]
  · rw [decide_eq_false h, decide_eq_false]
    exact Nat.not_lt.mpr (rk_mono l (by lia))
/-- the kit's sort of four, asked by ints -/
theorem sort4 (a b c d : Int) : ∃ p, runO 4 (fun i j => decide ([a, b, c, d].getD i 0 < [a, b, c, d].getD j 0)) (kas_sort 4) = some p ∧
    ∃ i0 i1 i2 i3, p.toList = [i0, i1, i2, i3] ∧ [i0, i1, i2, i3].Perm [0, 1, 2, 3] ∧ [a, b, c, d].getD i0 0 ≤ [a, b, c, d].getD i1 0 ∧ [a, b, c, d].getD i1 0 ≤ [a, b, c, d].getD i2 0 ∧ [a, b, c, d].getD i2 0 ≤ [a, b, c, d].getD i3 0 := by
  have mem : ∀ i, i < 4 → [a, b, c, d].getD i 0 ∈ [a, b, c, d] := by
    intro i hi
    match i, hi with
    | 0, _ => exact .head _
    | 1, _ => exact .tail _ (.head _)
    | 2, _ => exact .tail _ (.tail _ (.head _))
    | 3, _ => exact .tail _ (.tail _ (.tail _ (.head _)))
    | n + 4, h => exact absurd h (by lia)
  have key : ∀ i, i < 4 → [rk [a, b, c, d] a, rk [a, b, c, d] b, rk [a, b, c, d] c, rk [a, b, c, d] d].getD i 0 = rk [a, b, c, d] ([a, b, c, d].getD i 0) := by
    intro i hi
    match i, hi with
    | 0, _ => rfl
    | 1, _ => rfl
    | 2, _ => rfl
    | 3, _ => rfl
    | n + 4, h => exact absurd h (by lia)
  have h := okO_all
  have h1 := List.all_eq_true.mp (List.all_eq_true.mp (List.all_eq_true.mp (List.all_eq_true.mp h (rk [a, b, c, d] a) (List.mem_range.mpr (rk_bound (.head _)))) (rk [a, b, c, d] b) (List.mem_range.mpr (rk_bound (.tail _ (.head _)))))
    (rk [a, b, c, d] c) (List.mem_range.mpr (rk_bound (.tail _ (.tail _ (.head _)))))) (rk [a, b, c, d] d) (List.mem_range.mpr (rk_bound (.tail _ (.tail _ (.tail _ (.head _))))))
  unfold okO at h1
  rw [runO_congr (lt' := fun i j => decide ([a, b, c, d].getD i 0 < [a, b, c, d].getD j 0)) (fun i j hi hj => by
    show decide (_ < _) = _
    rw [key i hi, key j hj, ← rk_iff (mem i hi) (mem j hj)])] at h1
  split at h1
  · rename_i p hp
    split at h1
    · rename_i i0 i1 i2 i3 hpl
      simp only [Bool.and_eq_true, decide_eq_true_eq] at h1
      have hperm := List.isPerm_iff.mp h1.1.1.1
      have lt4 : ∀ i ∈ [i0, i1, i2, i3], i < 4 := fun i hi => by
        have := hperm.mem_iff.mp hi
        simp at this
        lia
      have l0 := lt4 i0 (.head _)
      have l1 := lt4 i1 (.tail _ (.head _))
      have l2 := lt4 i2 (.tail _ (.tail _ (.head _)))
      have l3 := lt4 i3 (.tail _ (.tail _ (.tail _ (.head _))))
      have le : ∀ i j, i < 4 → j < 4 → [rk [a, b, c, d] a, rk [a, b, c, d] b, rk [a, b, c, d] c, rk [a, b, c, d] d].getD i 0 ≤ [rk [a, b, c, d] a, rk [a, b, c, d] b, rk [a, b, c, d] c, rk [a, b, c, d] d].getD j 0 → [a, b, c, d].getD i 0 ≤ [a, b, c, d].getD j 0 := by
        intro i j hi hj h
        rw [key i hi, key j hj] at h
        have h2 := rk_iff (mem j hj) (mem i hi)
        by_cases h3 : [a, b, c, d].getD j 0 < [a, b, c, d].getD i 0
        · rw [decide_eq_true h3] at h2
          have := of_decide_eq_true h2.symm
          lia
        · lia
      exact ⟨p, hp, i0, i1, i2, i3, hpl, hperm, le _ _ l0 l1 h1.1.1.2, le _ _ l1 l2 h1.1.2, le _ _ l2 l3 h1.2⟩
    · cases h1
  · cases h1
theorem ledOf {h₀ h : Heap} {L : Addr} {led : List (Addr × Obj)} (_N : News h₀ L h led) : ∃ kl, kl = led := ⟨_, rfl⟩
theorem AllLt.mem {d : Nat} : ∀ {l : List (Addr × Obj)}, AllLt d l → ∀ p ∈ l, p.1 < d
  | [], _, _, h => nomatch h
  | _ :: _, x, p, h => by
    rcases List.mem_cons.mp h with rfl | h
    · exact x.1
    · exact AllLt.mem x.2 p h
theorem ltOff {p : Addr × Obj} {kl : List (Addr × Obj)} {I : Nat} (hp : p ∈ kl) (h : AllLt I kl) : p.1 ≠ I := Nat.ne_of_lt (AllLt.mem h p hp)
theorem offW1_of {p : Addr × Obj} : ∀ {its : List (Addr × Obj)}, (∀ q ∈ its, p.1 ≠ q.1) → OffW1 p its
  | [], _ => trivial
  | q :: _, h => ⟨.inl (h q (.head _)), offW1_of fun r hr => h r (.tail _ hr)⟩
theorem offW_of {its : List (Addr × Obj)} : ∀ {l : List (Addr × Obj)}, (∀ p ∈ l, ∀ q ∈ its, p.1 ≠ q.1) → OffW its l
  | [], _ => trivial
  | p :: _, h => ⟨offW1_of (h p (.head _)), offW_of fun r hr => h r (.tail _ hr)⟩
theorem subL_of {all : List (Addr × Obj)} : ∀ {l : List (Addr × Obj)}, (∀ p ∈ l, p ∈ all) → SubL l all
  | [], _ => trivial
  | p :: _, h => ⟨h p (.head _), subL_of fun r hr => h r (.tail _ hr)⟩
theorem ltFI {prog : Program} {w : World} {A : Around} {E : Value → Shared → Prop} {s : Shared} {a b : Int} {t u : Tok} {Q : Value → Shared → Prop} (ha : 0 ≤ a ∧ a ≤ 60) (hb : 0 ≤ b ∧ b ≤ 60) (h : b ≤ a) (hq : Q (.bool false) s) :
    wpAny (model prog w) A (compareOp .Lt (.float (FI a) t) (.float (FI b) u)) Q E s := by
  refine AutoFloatOps.lt_0 ?_
  rw [cmpFI ha hb, decide_eq_false (by lia)]
  exact hq
theorem cellMem {a R : Addr} {o : Obj} {kl : List (Addr × Obj)} (_d : o.data = Data.cell (some (.ref R))) (h : (a, o) ∈ kl) : (a, o) ∈ kl := h
/-- the greatest sums of the one are nowhere over those of the other -/
noncomputable def Maj (ps qs : List Int) : Prop := ∀ (ns ns' : List Int) (k : Nat), ns.Perm ps → List.Pairwise (fun x y => y ≤ x) ns → ns'.Perm qs → List.Pairwise (fun x y => y ≤ x) ns' → (ns.take k).sum ≤ (ns'.take k).sum
theorem Maj.use {ps qs ns ns' : List Int} {k : Nat} (h : Maj ps qs) (h1 : ns.Perm ps) (h2 : List.Pairwise (fun x y => y ≤ x) ns) (h3 : ns'.Perm qs) (h4 : List.Pairwise (fun x y => y ≤ x) ns') : (ns.take k).sum ≤ (ns'.take k).sum := h _ _ _ h1 h2 h3 h4
theorem ltII {prog : Program} {w : World} {A : Around} {E : Value → Shared → Prop} {s : Shared} {a b : Int} {t u : Tok} {Q : Value → Shared → Prop} (h : b ≤ a) (hq : Q (.bool false) s) : wpAny (model prog w) A (compareOp .Lt (.int a t) (.int b u)) Q E s := by
  refine lt_int ?_
  rw [decide_eq_false (by lia)]
  exact hq
theorem endU3 {h₀ : Heap} {L I : Addr} {it : Obj} {rest : (Str → Option Value) → List (Addr × Obj) → Prop} {s₁ : Shared} {h' : Heap} {tk : Nat} {m' : Str → Option Value} {x1 x2 : Addr × Obj} {r : List (Addr × Obj)} (F : Fr h₀ L h' m') (N : News h₀ L h' (x1 :: x2 :: (I, it) :: r)) (off : ∀ p ∈ r, p.1 ≠ I) (hr : rest m' r) : UnrEnd h₀ L s₁ I it rest { s₁ with heap := h', toks := tk } :=
  UnrEnd.intro F N r (fun p hp => .tail _ (.tail _ hp)) off hr
/-- put in order, the one four are nowhere under the other -/
noncomputable def Dom (ps qs : List Int) : Prop := ∀ x y z u x' y' z' u', [x, y, z, u].Perm ps → x ≤ y ∧ y ≤ z ∧ z ≤ u → [x', y', z', u'].Perm qs → x' ≤ y' ∧ y' ≤ z' ∧ z' ≤ u' → x' ≤ x ∧ y' ≤ y ∧ z' ≤ z ∧ u' ≤ u
/-- pairs of floats, the second no greater -/
inductive PO : List Itm → Prop
  | nil : PO []
  | cons {a b : Int} {t u : Tok} {r : List Itm} (ha : 0 ≤ a ∧ a ≤ 60) (hb : 0 ≤ b ∧ b ≤ 60) (h : b ≤ a) : PO r → PO (.pair (fun _ => .float (FI a) t) (.float (FI b) u) :: r)
section
variable {prog : Program} {w : World} {A : Around} {E : Value → Shared → Prop} {s : Shared} {h₀ : Heap} {L l : Addr} {m : Str → Option Value} {news : List (Addr × Obj)}
theorem sorted_fi {a b c d : Int} {t0 t1 t2 t3 : Tok} {Q : Value → Shared → Prop} (ha : 0 ≤ a ∧ a ≤ 60) (hb : 0 ≤ b ∧ b ≤ 60) (hc : 0 ≤ c ∧ c ≤ 60) (hd : 0 ≤ d ∧ d ≤ 60)
    (F : Fr h₀ L s.heap m) (N : News h₀ L s.heap news) (hl : s.heap.IsList l #[.float (FI a) t0, .float (FI b) t1, .float (FI c) t2, .float (FI d) t3])
    (h : ∀ D x y z u r0 r1 r2 r3 k h', Fr h₀ L h' m → News h₀ L h' ((D, listOf #[.float (FI x) r0, .float (FI y) r1, .float (FI z) r2, .float (FI u) r3] k) :: news) → (∀ q ∈ news, q.1 < D) → [x, y, z, u].Perm [a, b, c, d] → x ≤ y ∧ y ≤ z ∧ z ≤ u → (0 ≤ x ∧ x ≤ 60) → (0 ≤ y ∧ y ≤ 60) → (0 ≤ z ∧ z ≤ 60) → (0 ≤ u ∧ u ≤ 60) → Q (.ref D) { s with heap := h' }) :
    wpAny (model prog w) A (call (.builtin "sorted") [.ref l]) Q E s := by
  refine kas_sorted (T := .type "float") (vs := [.float (FI a) t0, .float (FI b) t1, .float (FI c) t2, .float (FI d) t3]) F N hl (by show 2 ≤ 4; lia) (by show 4 < 64; lia) ?_ rfl ?_
  · intro h F N v hv
    simp only [List.mem_cons, List.not_mem_nil, or_false] at hv
    rcases hv with rfl | rfl | rfl | rfl <;> exact Looks.of_pure rfl
  · intro D e1 h' F' N' l1
    obtain ⟨p, hp, i0, i1, i2, i3, hpl, hperm, o1, o2, o3⟩ := sort4 a b c d
    have at_ : ∀ i, i < 4 → ∃ t, [Value.float (FI a) t0, .float (FI b) t1, .float (FI c) t2, .float (FI d) t3].getD i Value.none = .float (FI ([a, b, c, d].getD i 0)) t ∧ 0 ≤ [a, b, c, d].getD i 0 ∧ [a, b, c, d].getD i 0 ≤ 60 := by
      intro i hi
      match i, hi with
      | 0, _ => exact ⟨t0, rfl, ha⟩
      | 1, _ => exact ⟨t1, rfl, hb⟩
      | 2, _ => exact ⟨t2, rfl, hc⟩
      | 3, _ => exact ⟨t3, rfl, hd⟩
      | n + 4, h => exact absurd h (by lia)
    refine runO_wp (n := 4) (lt := fun i j => decide ([a, b, c, d].getD i 0 < [a, b, c, d].getD j 0)) (fun i j hi hj C s' hC => ?_) _ _ p hp ?_
    · obtain ⟨ti, ei, bi⟩ := at_ i hi
      obtain ⟨tj, ej, bj⟩ := at_ j hj
      unfold kas_ask
      rw [ei, ej]
      exact kas_lt_fi bi bj hC
    · have lt4 : ∀ i ∈ [i0, i1, i2, i3], i < 4 := fun i hi => by
        have := hperm.mem_iff.mp hi
        simp at this
        lia
      obtain ⟨r0, e0, g0⟩ := at_ i0 (lt4 i0 (.head _))
      obtain ⟨r1, e1', g1⟩ := at_ i1 (lt4 i1 (.tail _ (.head _)))
      obtain ⟨r2, e2, g2⟩ := at_ i2 (lt4 i2 (.tail _ (.tail _ (.head _))))
      obtain ⟨r3, e3, g3⟩ := at_ i3 (lt4 i3 (.tail _ (.tail _ (.tail _ (.head _)))))
      have U : UpdF D (seqObj "list" #[] e1) ((D, seqObj "list" #[] e1) :: news) (fun o' => (D, o') :: news) := .head fun p hp => Nat.ne_of_lt (l1 p hp)
      rw [hpl]
      simp only [List.map_cons, List.map_nil]
      rw [e0, e1', e2, e3]
      refine KasFin.intro F' N' U fun h2 k F2 N2 => h D _ _ _ _ r0 r1 r2 r3 k h2 F2 N2 l1 ?_ ⟨o1, o2, o3⟩ g0 g1 g2 g3
      have := hperm.map (fun i => [a, b, c, d].getD i 0)
      exact this
theorem comp_led {elt : Expr} {x : Str} {scope : Scope} {cl : List (Str × Addr)} {env : Env} {Fin : Shared → List Value → List (Addr × Obj) → Prop} {ax : Addr} {vs : List Value} {led : List (Addr × Obj)} (Rel : Nat → Value → Prop)
    (hh : A.handled = none) (F : Fr h₀ L s.heap m) (N : News h₀ L s.heap led) (hm : (ax, LCg.lst vs) ∈ led) (hz : vs.length ≤ 8)
    (turn : ∀ g i v I oI C oC D m₂ ys h tk (E' : Value → Shared → Prop), vs[i]? = some v → LCg.NsObj oC m₂ → m₂ x = some v → Fr h₀ L h m → News h₀ L h ((I, oI) :: (C, oC) :: (D, LCg.lst ys) :: led) → LCg.Off3 I C D led → ((@Ne Nat I C) ∧ (@Ne Nat I D) ∧ (@Ne Nat C D)) →
      wpAny (model prog w) A (eval elt (compEnvC scope cl C env)) (LCg.CompEnd h₀ L m { s with heap := h, toks := tk } I oI C oC D (LCg.lst ys) (LCg.SrcAt h₀ ax vs.toArray) (fun y news' => news' = led ∧ Rel i y)) E' { ({ s with heap := g } : Shared) with heap := h, toks := tk })
    (fin : ∀ g ys, ys.length = vs.length → (∀ i y, ys[i]? = some y → Rel i y) → Fin { s with heap := g } ys led) : LCg.CompSrc prog w A h₀ L m env elt x scope cl Fin (.ref ax) s := by
  refine LCg.CompSrc.ledger (its := vs.toArray) (k := vs.length) hh F N hm (by rw [List.size_toArray, sizeLine_eq]; lia) fun g => ?_
  have e : vs.toArray.size = vs.length := by simp
  rw [e]
  exact restU_inv Rel (fun i v I oI C oC D m₂ ys h tk E' _ hv hC hx F N off ne => turn g i v I oI C oC D m₂ ys h tk E' (by simpa using hv) hC hx F N off ne) (fin g)
end
end Mine
end
section
open PySem PySem.W PyProof.Rows PySem.Calls
set_option maxRecDepth 100000
namespace Mine
section
variable {prog : Program} {w : World} {A : Around} {E : Value → Shared → Prop} {s : Shared} {h₀ : Heap} {L : Addr} {m : Str → Option Value} {env : Env}
/-- the end of one turn of a comprehension whose variable is a cell -/
noncomputable def CellEnd (h₀ : Heap) (L : Addr) (m : Str → Option Value) (s₁ : Shared) (led : List (Addr × Obj)) (Rel : Value → Prop) (y : Value) (s₂ : Shared) : Prop :=
  ∃ h' tk, s₂ = { s₁ with heap := h', toks := tk } ∧ Fr h₀ L h' m ∧ News h₀ L h' led ∧ Rel y
theorem CellEnd.intro {s₁ : Shared} {led all : List (Addr × Obj)} {Rel : Value → Prop} {y : Value} {h' : Heap} {tk : Nat} (F : Fr h₀ L h' m) (N : News h₀ L h' all) (sub : ∀ p ∈ led, p ∈ all) (r : Rel y) :
    CellEnd h₀ L m s₁ led Rel y { s₁ with heap := h', toks := tk } := ⟨h', tk, rfl, F, fun p hp => N p (sub p hp), r⟩
/-- the source of such a comprehension: range(n) -/
noncomputable def CellSrc (prog : Program) (w : World) (A : Around) (h₀ : Heap) (L : Addr) (m : Str → Option Value) (env : Env) (elt : Expr) (x : Str) (scope : Scope) (cl : List (Str × Addr)) (Q : Value → Shared → Prop) (xv : Value) (s₁ : Shared) : Prop :=
  ∃ (r : Addr) (a b : Int) (t u v : Tok) (n : Nat) (led : List (Addr × Obj)) (Rel : Nat → Value → Prop), xv = .ref r ∧ A.handled = none ∧ Fr h₀ L s₁.heap m ∧ News h₀ L s₁.heap led ∧ IsRange s₁.heap r a b 1 t u v ∧ Builtin.Range.small a b 1 = true ∧ Builtin.Range.rangeSize a b 1 = ((n : Nat) : Int) ∧ n ≤ 8 ∧
    (∀ i t c oc I oI C oC D ys h tk (E' : Value → Shared → Prop), i < n → LCg.NsObj oC (fun _ => none) → oc.data = .cell (some (.int (a + (i : Int)) t)) → Fr h₀ L h m → News h₀ L h ((c, oc) :: (I, oI) :: (C, oC) :: (D, LCg.lst ys) :: led) →
      wpAny (model prog w) A (eval elt (compEnvC scope ((x, c) :: cl) C env)) (CellEnd h₀ L m { s₁ with heap := h, toks := tk } ((c, oc) :: (I, oI) :: (C, oC) :: (D, LCg.lst ys) :: led) (Rel i)) E' { s₁ with heap := h, toks := tk }) ∧
    (∀ D ys h tk, ys.length = n → (∀ i y, ys[i]? = some y → Rel i y) → Fr h₀ L h m → News h₀ L h ((D, LCg.lst ys) :: led) → (∀ p ∈ led, p.1 ≠ D) → Q (.ref D) { s₁ with heap := h, toks := tk })
theorem ListComp_C {elt iter : Expr} {x : Str} {px : Pos} {scope : Scope} {cl : List (Str × Addr)} {pos : Pos} {Q : Value → Shared → Prop} (_F₀ : Fr h₀ L s.heap m)
    (hclos : closureFor scope env = pure cl) (hpush : ∀ h, pushCells h scope.names = h.push { cls := .type "cell", data := .cell none }) (hcf : ∀ n, cellsFrom n scope.names cl = (x, n) :: cl) (hkind : scope.kind = .function)
    (hnames : ∀ y ∈ scope.names, y.2 = .local → scope.names.lookup y.1 = some .local) (hx : ∀ C c, (compEnvC scope ((x, c) :: cl) C env).kindOf x = some .cell)
    (h : wpAny (model prog w) A (eval iter env) (CellSrc prog w A h₀ L m env elt x scope cl Q) E s)
    (hs : ∀ x, foldedSetIterable iter env x = pure x := by intro _; rfl) :
    wpAny (model prog w) A (eval (.ListComp elt [⟨.Name x px, iter, [], 0⟩] scope pos) env) Q E s := by
  rw [eval_ListComp]
  refine wpAny_comprehension_free (use := none) rfl hs hclos hkind hnames (wpAny_mono h (fun xv s₁ h₁ => ?_) fun _ _ e => e)
  obtain ⟨r, a, b, t, u, v, n, led, Rel, rfl, hh, F, N, hr, hsm, hn, hsz, turn, fin⟩ := h₁
  refine wpAny_pyIter_range hr hsm ?_
  refine wpAny_newObj_type ?_
  simp only [newFunctionEnv, Option.isSome_some, if_true]
  refine wpAny_bind (wpAny_alloc ?_)
  refine wpAny_bind (wpAny_layCells _ (fun name kind cells => by cases hkc : kind == NameKind.cell <;> simp [hkc]) _ _ _ _ ?_)
  rw [hpush, hcf]
  simp only [List.forIn_nil]
  refine wpAny_bind (wpAny_pure (wpAny_pure ?_))
  dsimp only
  generalize hH1 : s₁.heap.push { cls := Value.type "range_iterator", dict := none, data := Data.fields #[rawInt a, rawInt (Builtin.Range.rangeSize a b 1), rawInt 1] } = H1
  have z1 : H1.objs.size = s₁.heap.objs.size + 1 := by rw [← hH1, Heap.size_push]
  generalize hH2 : H1.push { cls := Value.type "list", dict := none, data := Data.seq #[] } = H2
  have z2 : H2.objs.size = s₁.heap.objs.size + 2 := by rw [← hH2, Heap.size_push, z1]
  generalize hH3 : H2.push { cls := Value.type "dict", dict := none, data := Data.dict #[] } = H3
  have z3 : H3.objs.size = s₁.heap.objs.size + 3 := by rw [← hH3, Heap.size_push, z2]
  generalize hH4 : H3.push { cls := Value.type "cell", dict := none, data := Data.cell none } = H4
  have k1 : ∀ b o, s₁.heap.get? b = some o → H1.get? b = some o := fun b o e => hH1 ▸ Heap.get?_push_of_some _ e
  have k2 : ∀ b o, H1.get? b = some o → H2.get? b = some o := fun b o e => hH2 ▸ Heap.get?_push_of_some _ e
  have k3 : ∀ b o, H2.get? b = some o → H3.get? b = some o := fun b o e => hH3 ▸ Heap.get?_push_of_some _ e
  have k4 : ∀ b o, H3.get? b = some o → H4.get? b = some o := fun b o e => hH4 ▸ Heap.get?_push_of_some _ e
  have gI : H4.get? s₁.heap.objs.size = some { cls := Value.type "range_iterator", dict := none, data := Data.fields #[rawInt a, rawInt (Builtin.Range.rangeSize a b 1), rawInt 1] } := k4 _ _ (k3 _ _ (k2 _ _ (hH1 ▸ Heap.get?_push_size _ rfl)))
  have gD : H4.get? H1.objs.size = some (LCg.lst []) := k4 _ _ (k3 _ _ (hH2 ▸ Heap.get?_push_size _ rfl))
  obtain ⟨oC, gC, nC⟩ := LCg.ns_obj ((hH3 ▸ Heap.Ns.new H2 (.type "dict") : H3.Ns H2.objs.size _).keeps k4)
  have gc : H4.get? H3.objs.size = some { cls := Value.type "cell", dict := none, data := Data.cell none } := hH4 ▸ Heap.get?_push_size _ rfl
  have kall : ∀ b o, s₁.heap.get? b = some o → H4.get? b = some o := fun b o e => k4 _ _ (k3 _ _ (k2 _ _ (k1 _ _ e)))
  have fresh₀ : ∀ q, @LE.le Nat _ s₁.heap.objs.size q → h₀.get? q = none := fun q hq => Heap.get?_none_of_le (Nat.le_trans (Nat.le_of_lt (Nat.lt_of_le_of_lt F.above F.ns.lt)) hq)
  have hL : @LT.lt Nat _ L s₁.heap.objs.size := F.ns.lt
  have hlt : ∀ p ∈ led, @LT.lt Nat _ p.1 s₁.heap.objs.size := fun p hp => Heap.lt_size (N p hp).1
  have hst : IsRangeIter H4 s₁.heap.objs.size (a + ((0 : Nat) : Int) * 1) ((n : Int) - ((0 : Nat) : Int)) 1 := by show H4.get? _ = some _; rw [gI, hn]; simp
  refine codeAny_compStart_list ?loop ((LCg.range_walks hh a n).self 0 _ _ _ hst ?loop)
  show codeAny _ _ (.compLoop _ 0 _ _ (compEnvC scope ((x, H3.objs.size) :: cl) H2.objs.size env)) _ _
  refine codeAny_compLoop_tests
    (fun k s' => ∃ h' tk i ys oc vo, s' = { s₁ with heap := h', toks := tk } ∧ i ≤ n ∧ k = n + 1 - i ∧ ys.length = i ∧ (∀ i y, ys[i]? = some y → Rel i y) ∧ IsRangeIter h' s₁.heap.objs.size (a + (i : Nat) * 1) ((n : Int) - (i : Nat)) 1 ∧ Fr h₀ L h' m ∧ oc.data = .cell vo ∧
      News h₀ L h' ((H3.objs.size, oc) :: (H2.objs.size, oC) :: (H1.objs.size, LCg.lst ys) :: led)) ?_ (n + 1)
    ⟨H4, _, 0, [], { cls := Value.type "cell", dict := none, data := Data.cell none }, none, rfl, Nat.zero_le _, rfl, rfl, fun _ _ e => (nomatch e), hst, F.keeps kall, rfl, fun p hp => ?_⟩
  · rintro k s' ⟨h', tk, i, ys, oc, vo, rfl, hi, rfl, hyl, hre, hst', F', hoc, N'⟩
    by_cases hlt' : i < n
    · refine (LCg.range_walks hh a n).item i _ _ _ hlt' hst' fun v h₂ tk₂ hPv hst₂ hk₂ => ?_
      obtain ⟨t', rfl⟩ := hPv
      have N₂ : News h₀ L h₂ ((H3.objs.size, oc) :: (H2.objs.size, oC) :: (H1.objs.size, LCg.lst ys) :: led) := LCg.news_but N' hk₂ fun p hp => by
        rcases List.mem_cons.mp hp with rfl | hp
        · show @Ne Nat H3.objs.size _; lia
        rcases List.mem_cons.mp hp with rfl | hp
        · show @Ne Nat H2.objs.size _; lia
        rcases List.mem_cons.mp hp with rfl | hp
        · show @Ne Nat H1.objs.size _; lia
        · exact Nat.ne_of_lt (hlt p hp)
      have F₂ : Fr h₀ L h₂ m := LCg.fr_but F' hk₂ (Nat.ne_of_lt hL) (fresh₀ _ (Nat.le_refl _))
      refine wpAny_assign_Name (wpAny_storeName_cell (by exact hkind) (hx _ _) (c := H3.objs.size) (by simp [compEnvC]) ⟨oc, N₂.get List.mem_cons_self, hoc⟩ (fun h₃ hc₃ hs₃ => ?_))
      obtain ⟨oc', gc', hoc'⟩ := hc₃
      refine wpAny_tests_nil ?_
      simp only [if_true]
      have F₃ : Fr h₀ L h₃ m := F₂.change hs₃ (by show @Ne Nat _ _; lia) (fresh₀ _ (by show @LE.le Nat _ _ _; lia))
      have hst₃ : IsRangeIter h₃ s₁.heap.objs.size (a + ((i + 1 : Nat) : Int) * 1) ((n : Int) - ((i + 1 : Nat) : Int)) 1 := by
        show h₃.get? _ = some _
        rw [hs₃.2 _ (by show @Ne Nat _ _; lia)]; exact hst₂
      have N₃ : News h₀ L h₃ ((H3.objs.size, oc') :: (s₁.heap.objs.size, _) :: (H2.objs.size, oC) :: (H1.objs.size, LCg.lst ys) :: led) := fun p hp => by
        rcases List.mem_cons.mp hp with rfl | hp
        · exact ⟨gc', by show @Ne Nat H3.objs.size L; lia, fresh₀ _ (by show @LE.le Nat _ _ H3.objs.size; lia)⟩
        rcases List.mem_cons.mp hp with rfl | hp
        · exact ⟨hst₃, Ne.symm (Nat.ne_of_lt hL), fresh₀ _ (Nat.le_refl _)⟩
        · have z := N₂ p (List.mem_cons_of_mem _ hp)
          refine ⟨(hs₃.2 _ ?_).trans z.1, z.2⟩
          rcases List.mem_cons.mp hp with rfl | hp
          · show @Ne Nat H2.objs.size _; lia
          rcases List.mem_cons.mp hp with rfl | hp
          · show @Ne Nat H1.objs.size _; lia
          · have := hlt p hp; show @Ne Nat _ _; lia
      refine wpAny_mono (turn i t' H3.objs.size oc' _ _ _ _ _ ys h₃ _ _ hlt' nC hoc' F₃ N₃) (fun y s₄ h₄ => ?_) fun _ _ e => e
      obtain ⟨h₄, tk₄, rfl, F₄, N₄, r₄⟩ := h₄
      have zI := N₄.get (List.mem_cons_of_mem _ List.mem_cons_self)
      have zD := N₄.get (List.mem_cons_of_mem _ (List.mem_cons_of_mem _ (List.mem_cons_of_mem _ List.mem_cons_self)))
      refine append_at (hsz := by show ys.toArray.size ≤ sizeLine; rw [List.size_toArray, hyl, sizeLine_eq]; lia) zD fun h₅ hs₅ hD₅ => ?_
      refine ⟨n + 1 - (i + 1), by lia, h₅, tk₄, i + 1, ys ++ [y], oc', _, rfl, hlt', rfl, by rw [List.length_append, List.length_singleton, hyl], ?_, ?_, F₄.change hs₅ (by show @Ne Nat _ _; lia) (fresh₀ _ (by show @LE.le Nat _ _ _; lia)), hoc', fun p hp => ?_⟩
      · intro q z hq
        by_cases hq' : q < ys.length
        · rw [List.getElem?_append_left hq'] at hq
          exact hre q z hq
        · rw [List.getElem?_append_right (Nat.not_lt.mp hq')] at hq
          have hq0 : q = i := by
            have : q - ys.length < [y].length := by
              rcases Nat.lt_or_ge (q - ys.length) [y].length with h | h
              · exact h
              · rw [List.getElem?_eq_none h] at hq; cases hq
            simp at this
            lia
          subst hq0
          rw [← hyl] at hq
          simp at hq
          exact hq ▸ r₄
      · show h₅.get? _ = some _
        rw [hs₅.2 _ (by show @Ne Nat _ _; lia)]; exact zI
      · rcases List.mem_cons.mp hp with rfl | hp
        · have z := N₄ (H3.objs.size, oc') List.mem_cons_self
          exact ⟨(hs₅.2 _ (by show @Ne Nat H3.objs.size _; lia)).trans z.1, z.2⟩
        rcases List.mem_cons.mp hp with rfl | hp
        · have z := N₄ (H2.objs.size, oC) (List.mem_cons_of_mem _ (List.mem_cons_of_mem _ List.mem_cons_self))
          exact ⟨(hs₅.2 _ (by show @Ne Nat H2.objs.size _; lia)).trans z.1, z.2⟩
        rcases List.mem_cons.mp hp with rfl | hp
        · exact ⟨hD₅.trans (congrArg some (LCg.lst_snoc ys y)), by show @Ne Nat H1.objs.size L; lia, fresh₀ _ (by show @LE.le Nat _ _ H1.objs.size; lia)⟩
        · have z := N₄ p (List.mem_cons_of_mem _ (List.mem_cons_of_mem _ (List.mem_cons_of_mem _ (List.mem_cons_of_mem _ hp))))
          exact ⟨(hs₅.2 _ (by have := hlt p hp; show @Ne Nat _ _; lia)).trans z.1, z.2⟩
    · obtain rfl : i = n := Nat.le_antisymm hi (Nat.not_lt.mp hlt')
      refine (LCg.range_walks hh a i).done _ _ _ hst' fun h₂ tk₂ hk₂ => ?_
      have N₂ : News h₀ L h₂ ((H3.objs.size, oc) :: (H2.objs.size, oC) :: (H1.objs.size, LCg.lst ys) :: led) := LCg.news_but N' hk₂ fun p hp => by
        rcases List.mem_cons.mp hp with rfl | hp
        · show @Ne Nat H3.objs.size _; lia
        rcases List.mem_cons.mp hp with rfl | hp
        · show @Ne Nat H2.objs.size _; lia
        rcases List.mem_cons.mp hp with rfl | hp
        · show @Ne Nat H1.objs.size _; lia
        · exact Nat.ne_of_lt (hlt p hp)
      have F₂ : Fr h₀ L h₂ m := LCg.fr_but F' hk₂ (Nat.ne_of_lt hL) (fresh₀ _ (Nat.le_refl _))
      refine ⟨_, nC.ns (N₂.get (List.mem_cons_of_mem _ List.mem_cons_self)), fun h₃ hs₃ => ?_⟩
      refine fin _ ys h₃ tk₂ hyl hre (F₂.change hs₃ (by show @Ne Nat H2.objs.size L; lia) (fresh₀ _ (by show @LE.le Nat _ _ H2.objs.size; lia))) (fun p hp => ?_) (fun p hp => by have := hlt p hp; show @Ne Nat _ _; lia)
      have z := N₂ p (List.mem_cons_of_mem _ (List.mem_cons_of_mem _ hp))
      refine ⟨(hs₃.2 _ ?_).trans z.1, z.2⟩
      rcases List.mem_cons.mp hp with rfl | hp
      · show @Ne Nat H1.objs.size H2.objs.size; lia
      · have := hlt p hp; show @Ne Nat _ _; lia
  · rcases List.mem_cons.mp hp with rfl | hp
    · exact ⟨gc, by show @Ne Nat H3.objs.size L; lia, fresh₀ _ (by show @LE.le Nat _ _ H3.objs.size; lia)⟩
    rcases List.mem_cons.mp hp with rfl | hp
    · exact ⟨gC, by show @Ne Nat H2.objs.size L; lia, fresh₀ _ (by show @LE.le Nat _ _ H2.objs.size; lia)⟩
    rcases List.mem_cons.mp hp with rfl | hp
    · exact ⟨gD, by show @Ne Nat H1.objs.size L; lia, fresh₀ _ (by show @LE.le Nat _ _ H1.objs.size; lia)⟩
    · exact ⟨kall _ _ (N p hp).1, (N p hp).2⟩
end
end Mine
end
section
namespace Mine
/-- 1 if x is no greater than t -/
noncomputable def le1 (t x : Int) : Int := if x ≤ t then 1 else 0
theorem le1_nn (t x : Int) : 0 ≤ le1 t x := by unfold le1; split <;> lia
theorem le1_le (t x : Int) : le1 t x ≤ 1 := by unfold le1; split <;> lia
theorem le1_y {t x : Int} (h : x ≤ t) : le1 t x = 1 := if_pos h
theorem le1_n {t x : Int} (h : t < x) : le1 t x = 0 := if_neg (by lia)
theorem perm_sum {f : Int → Int} {xs ys : List Int} (h : xs.Perm ys) : (xs.map f).sum = (ys.map f).sum := by
  induction h with
  | nil => rfl
  | cons x _ ih => simp only [List.map_cons, List.sum_cons, ih]
  | swap x y l => simp only [List.map_cons, List.sum_cons]; lia
  | trans _ _ a b => exact a.trans b
theorem Dom_of {ps qs : List Int} (h : ∀ t, (ps.map (le1 t)).sum ≤ (qs.map (le1 t)).sum) : Dom ps qs := by
  intro x y z u x' y' z' u' h1 ⟨a1, a2, a3⟩ h2 ⟨b1, b2, b3⟩
  have key : ∀ t, le1 t x + (le1 t y + (le1 t z + (le1 t u + 0))) ≤ le1 t x' + (le1 t y' + (le1 t z' + (le1 t u' + 0))) := by
    intro t
    have := h t
    rw [← perm_sum h1, ← perm_sum h2] at this
    simpa only [List.map_cons, List.map_nil, List.sum_cons, List.sum_nil] using this
  have n := le1_nn
  have l := le1_le
  refine ⟨?_, ?_, ?_, ?_⟩
  · refine Int.not_lt.mp fun hc => ?_
    have k := key x
    rw [le1_y (Int.le_refl x), le1_n hc, le1_n (x := y') (by lia), le1_n (x := z') (by lia), le1_n (x := u') (by lia)] at k
    have := n x y; have := n x z; have := n x u
    lia
  · refine Int.not_lt.mp fun hc => ?_
    have k := key y
    rw [le1_y (x := x) a1, le1_y (Int.le_refl y), le1_n hc, le1_n (x := z') (by lia), le1_n (x := u') (by lia)] at k
    have := n y z; have := n y u; have := l y x'
    lia
  · refine Int.not_lt.mp fun hc => ?_
    have k := key z
    rw [le1_y (t := z) (x := x) (by lia), le1_y (x := y) a2, le1_y (Int.le_refl z), le1_n hc, le1_n (x := u') (by lia)] at k
    have := n z u; have := l z x'; have := l z y'
    lia
  · refine Int.not_lt.mp fun hc => ?_
    have k := key u
    rw [le1_y (t := u) (x := x) (by lia), le1_y (t := u) (x := y) (by lia), le1_y (x := z) a3, le1_y (Int.le_refl u), le1_n hc] at k
    have := l u x'; have := l u y'; have := l u z'
    lia
theorem le1_pair {a b a' b' : Int} (t : Int) (h1 : a' ≤ a) (h2 : a' ≤ b) (h3 : b' ≤ a ∨ b' ≤ b) : le1 t a + le1 t b ≤ le1 t a' + le1 t b' := by
  unfold le1
  split <;> split <;> split <;> split <;> lia
theorem le1_pair2 {a b a' b' : Int} (t : Int) (h1 : a ≤ b') (h2 : b ≤ b') (h3 : a ≤ a' ∨ b ≤ a') : le1 t a' + le1 t b' ≤ le1 t a + le1 t b := by
  unfold le1
  split <;> split <;> split <;> split <;> lia
/-- what x lies over t -/
noncomputable def ov (t x : Int) : Int := if t ≤ x then x - t else 0
theorem ov_nn (t x : Int) : 0 ≤ ov t x := by unfold ov; split <;> lia
theorem ov_ge (t x : Int) : x - t ≤ ov t x := by unfold ov; split <;> lia
theorem ov_y {t x : Int} (h : t ≤ x) : ov t x = x - t := if_pos h
theorem ov_n {t x : Int} (h : x ≤ t) : ov t x = 0 := by unfold ov; split <;> lia
theorem len4 {xs : List Int} (h : xs.length = 4) : ∃ a b c d, xs = [a, b, c, d] := by
  match xs, h with
  | [a, b, c, d], _ => exact ⟨a, b, c, d, rfl⟩
theorem id_sum (xs : List Int) : (xs.map fun x => x) = xs := by simp
theorem Maj_of {ps qs : List Int} (hl : ps.length = 4) (hl' : qs.length = 4) (hs : ps.sum = qs.sum) (h : ∀ t, (ps.map (ov t)).sum ≤ (qs.map (ov t)).sum) : Maj ps qs := by
  intro ns ns' k h1 o1 h2 o2
  obtain ⟨a, b, c, d, rfl⟩ := len4 (h1.length_eq.trans hl)
  obtain ⟨a', b', c', d', rfl⟩ := len4 (h2.length_eq.trans hl')
  have s1 := perm_sum (f := fun x => x) h1
  have s2 := perm_sum (f := fun x => x) h2
  rw [id_sum, id_sum] at s1 s2
  have key : ∀ t, ov t a + (ov t b + (ov t c + (ov t d + 0))) ≤ ov t a' + (ov t b' + (ov t c' + (ov t d' + 0))) := by
    intro t
    have := h t
    rw [← perm_sum h1, ← perm_sum h2] at this
    simpa only [List.map_cons, List.map_nil, List.sum_cons, List.sum_nil] using this
  simp only [List.pairwise_cons, List.mem_cons, List.not_mem_nil, or_false, forall_eq_or_imp, forall_eq] at o1 o2
  simp only [List.sum_cons, List.sum_nil] at s1 s2
  obtain ⟨⟨x1, x2, x3⟩, ⟨x4, x5⟩, x6, -⟩ := o2
  have n := ov_nn
  have g := ov_ge
  match k with
  | 0 => simp
  | 1 =>
    simp only [List.take_succ_cons, List.take_zero, List.sum_cons, List.sum_nil]
    have k := key a'
    rw [ov_y (Int.le_refl a'), ov_n x1, ov_n x2, ov_n x3] at k
    have := g a' a; have := n a' b; have := n a' c; have := n a' d
    lia
  | 2 =>
    simp only [List.take_succ_cons, List.take_zero, List.sum_cons, List.sum_nil]
    have k := key b'
    rw [ov_y x1, ov_y (Int.le_refl b'), ov_n x4, ov_n x5] at k
    have := g b' a; have := g b' b; have := n b' c; have := n b' d
    lia
  | 3 =>
    simp only [List.take_succ_cons, List.take_zero, List.sum_cons, List.sum_nil]
    have k := key c'
    rw [ov_y x2, ov_y x4, ov_y (Int.le_refl c'), ov_n x6] at k
    have := g c' a; have := g c' b; have := g c' c; have := n c' d
    lia
  | k + 4 =>
    simp only [List.take_succ_cons, List.take_nil, List.sum_cons, List.sum_nil]
    lia
theorem ov_pair {a b a' b' : Int} (t : Int) (hs : a + b = a' + b') (h1 : a' ≤ a) (h2 : a' ≤ b) : ov t a + ov t b ≤ ov t a' + ov t b' := by
  unfold ov
  split <;> split <;> split <;> split <;> lia
end Mine
end
section
open PySem PySem.W PyProof.Rows PySem.Calls
set_option maxRecDepth 100000
namespace Mine
section
variable {prog : Program} {w : World} {A : Around} {E : Value → Shared → Prop} {s : Shared} {h₀ : Heap} {L l D : Addr} {m : Str → Option Value} {news news' : List (Addr × Obj)}
/-- an item of a list at a place that is told by its value alone -/
theorem item_Li {value slice : PySem.Expr} {vs : List Value} {c : Nat} {k : Int} {u : Tok} {v : Value} {Q : Value → Shared → Prop} (N : News h₀ L s.heap news) (hm : (l, W.listOf vs.toArray c) ∈ news)
    (hk : 0 ≤ k ∧ k ≤ 8) (hx : vs[k.toNat]? = some v) (h : Q v s)
    (hs : subscripted slice false (.ref l) (.int k u) = operate [.ref l, .int k u] (getItem (.ref l) (.int k u))) :
    wpAny (model prog w) A (subscriptTail value slice (.ref l) (.int k u)) Q E s :=
  have hl : s.heap.IsList l vs.toArray := News.isList N hm
  tail_any hl.typeIs slot_list_getitem.lookup (wpAny_getItem_list hl hk.1 (by lia) (by simpa using hx) h) hs
theorem set_Li {vs : List Value} {c : Nat} {k : Int} {u : Tok} {v : Value} {Q : Unit → Shared → Prop} (F : Fr h₀ L s.heap m) (N : News h₀ L s.heap news) (U : Upd D (W.listOf vs.toArray c) (W.listOf (vs.set k.toNat v).toArray c) news news')
    (hk : 0 ≤ k ∧ k ≤ 8) (h1 : k.toNat < vs.length)
    (h : ∀ h', Fr h₀ L h' m → News h₀ L h' news' → Q () { s with heap := h' }) : wpAny (model prog w) A (setItem (.ref D) (.int k u) v) Q E s := by
  obtain ⟨pre, post, rfl, rfl, a, b'⟩ := U.split
  have z := N (D, W.listOf vs.toArray c) (List.mem_append.mpr (.inr (.head _)))
  have hs : vs.toArray.size = vs.length := List.size_toArray ..
  refine ki_setAt z.1 hk.1 (by lia) (by lia) (h _ (F.change (Heap.SameBut.update ..) z.2.1 z.2.2) (ki_turn _ N a b' ?_ ?_))
  · show vs.toArray.setIfInBounds k.toNat v = (vs.set k.toNat v).toArray
    apply Array.toList_inj.mp
    simp
  · simp
theorem two_sorted {a b : Int} {ns : List Int} (hp : ns.Perm [a, b]) (ho : ns.Pairwise (· ≤ ·)) : ns = [min a b, max a b] := by
  match ns, hp.length_eq with
  | [x, y], _ =>
    have h1 : x ≤ y := by simpa using ho
    have h2 := hp.mem_iff (a := a)
    have h3 := hp.mem_iff (a := b)
    have h4 := hp.mem_iff (a := x)
    have h5 := hp.mem_iff (a := y)
    have h6 : x + y = a + b := by have := perm_sum (f := fun x => x) hp; simpa using this
    simp at h2 h3 h4 h5
    have : x = min a b ∧ y = max a b := by lia
    rw [this.1, this.2]
theorem sorted2 {a b : Int} {t u : Tok} {c : Nat} {Q : Value → Shared → Prop} (F : Fr h₀ L s.heap m) (N : News h₀ L s.heap news) (hm : (l, W.listOf [Value.int a t, Value.int b u].toArray c) ∈ news)
    (h : ∀ D t' u' c' h', Fr h₀ L h' m → News h₀ L h' ((D, W.listOf [Value.int (min a b) t', Value.int (max a b) u'].toArray c') :: news) → (∀ q ∈ news, q.1 < D) → Q (.ref D) { s with heap := h' }) :
    wpAny (model prog w) A (call (.builtin "sorted") [.ref l]) Q E s := by
  refine kso_sorted (ns := [a, b]) F N (News.isList N hm) (.cons _ _ (.cons _ _ .nil)) (by show 2 < 64; lia) fun D vs' ns' c h' F' N' l1 hi hl hp ho _ => ?_
  have e := two_sorted hp ho
  subst e
  cases hi with | cons _ t' hi => cases hi with | cons _ u' hi => cases hi; exact h D t' u' c h' F' N' l1
end
abbrev Tr := Int × Int × Int
noncomputable def tr (l : Lamp) : Tr := (l.r, l.g, l.b)
noncomputable def mt (a b : Tr) : Tr := (min a.1 b.1, min a.2.1 b.2.1, min a.2.2 b.2.2)
noncomputable def jn (a b : Tr) : Tr := (max a.1 b.1, max a.2.1 b.2.1, max a.2.2 b.2.2)
noncomputable def stepN (xs : List Tr) (p : Nat × Nat) : List Tr := (xs.set p.1 (mt (xs.getD p.1 (0, 0, 0)) (xs.getD p.2 (0, 0, 0)))).set p.2 (jn (xs.getD p.1 (0, 0, 0)) (xs.getD p.2 (0, 0, 0)))
noncomputable def net5 : List (Nat × Nat) := [(0, 1), (2, 3), (0, 2), (1, 3), (1, 2)]
noncomputable def Bd (l : Lamp) : Prop := (0 ≤ l.r ∧ l.r ≤ 60) ∧ (0 ≤ l.g ∧ l.g ≤ 60) ∧ (0 ≤ l.b ∧ l.b ≤ 60)
/-- what a meeting of two lamps does to the two -/
structure Meet (a b a' b' : Lamp) : Prop where
  lo : tr a' = mt (tr a) (tr b)
  hi : tr b' = jn (tr a) (tr b)
theorem Meet.lo3 {a b a' b' : Lamp} (h : Meet a b a' b') : a'.r = min a.r b.r ∧ a'.g = min a.g b.g ∧ a'.b = min a.b b.b := by
  have h1 := h.lo
  simpa only [tr, mt, Prod.mk.injEq] using h1
theorem Meet.hi3 {a b a' b' : Lamp} (h : Meet a b a' b') : b'.r = max a.r b.r ∧ b'.g = max a.g b.g ∧ b'.b = max a.b b.b := by
  have h1 := h.hi
  simpa only [tr, jn, Prod.mk.injEq] using h1
theorem mm_in {x y : Int} (hx : 0 ≤ x ∧ x ≤ 60) (hy : 0 ≤ y ∧ y ≤ 60) : (0 ≤ min x y ∧ min x y ≤ 60) ∧ (0 ≤ max x y ∧ max x y ≤ 60) := by lia
theorem mm_sum (x y : Int) : min x y + max x y = x + y := by lia
theorem mx_le {l : Lamp} {z : Int} : mx l ≤ z ↔ l.r ≤ z ∧ l.g ≤ z ∧ l.b ≤ z := by
  unfold mx
  rw [Int.max_le, Int.max_le, and_assoc]
theorem le_mn {l : Lamp} {z : Int} : z ≤ mn l ↔ z ≤ l.r ∧ z ≤ l.g ∧ z ≤ l.b := by
  unfold mn
  rw [Int.le_min, Int.le_min, and_assoc]
theorem Meet.bd {a b a' b' : Lamp} (h : Meet a b a' b') (ha : Bd a) (hb : Bd b) : Bd a' ∧ Bd b' := by
  obtain ⟨l1, l2, l3⟩ := h.lo3
  obtain ⟨u1, u2, u3⟩ := h.hi3
  have r := mm_in ha.1 hb.1
  have g := mm_in ha.2.1 hb.2.1
  have c := mm_in ha.2.2 hb.2.2
  unfold Bd
  rw [l1, l2, l3, u1, u2, u3]
  exact ⟨⟨r.1, g.1, c.1⟩, r.2, g.2, c.2⟩
theorem Meet.top {a b a' b' : Lamp} (h : Meet a b a' b') (t : Int) : le1 t (mx a) + le1 t (mx b) ≤ le1 t (mx a') + le1 t (mx b') := by
  obtain ⟨l1, l2, l3⟩ := h.lo3
  obtain ⟨u1, u2, u3⟩ := h.hi3
  have A := mx_le.mp (Int.le_refl (mx a))
  have B := mx_le.mp (Int.le_refl (mx b))
  refine le1_pair t (mx_le.mpr ?_) (mx_le.mpr ?_) ?_
  · rw [l1, l2, l3]
    exact ⟨Int.le_trans (Int.min_le_left ..) A.1, Int.le_trans (Int.min_le_left ..) A.2.1, Int.le_trans (Int.min_le_left ..) A.2.2⟩
  · rw [l1, l2, l3]
    exact ⟨Int.le_trans (Int.min_le_right ..) B.1, Int.le_trans (Int.min_le_right ..) B.2.1, Int.le_trans (Int.min_le_right ..) B.2.2⟩
  · rcases Int.le_total (mx a) (mx b) with q | q
    · refine .inr (mx_le.mpr ?_)
      rw [u1, u2, u3]
      exact ⟨Int.max_le.mpr ⟨Int.le_trans A.1 q, B.1⟩, Int.max_le.mpr ⟨Int.le_trans A.2.1 q, B.2.1⟩, Int.max_le.mpr ⟨Int.le_trans A.2.2 q, B.2.2⟩⟩
    · refine .inl (mx_le.mpr ?_)
      rw [u1, u2, u3]
      exact ⟨Int.max_le.mpr ⟨A.1, Int.le_trans B.1 q⟩, Int.max_le.mpr ⟨A.2.1, Int.le_trans B.2.1 q⟩, Int.max_le.mpr ⟨A.2.2, Int.le_trans B.2.2 q⟩⟩
theorem Meet.low {a b a' b' : Lamp} (h : Meet a b a' b') (t : Int) : le1 t (mn a') + le1 t (mn b') ≤ le1 t (mn a) + le1 t (mn b) := by
  obtain ⟨l1, l2, l3⟩ := h.lo3
  obtain ⟨u1, u2, u3⟩ := h.hi3
  have A := le_mn.mp (Int.le_refl (mn a))
  have B := le_mn.mp (Int.le_refl (mn b))
  refine le1_pair2 t (le_mn.mpr ?_) (le_mn.mpr ?_) ?_
  · rw [u1, u2, u3]
    exact ⟨Int.le_trans A.1 (Int.le_max_left ..), Int.le_trans A.2.1 (Int.le_max_left ..), Int.le_trans A.2.2 (Int.le_max_left ..)⟩
  · rw [u1, u2, u3]
    exact ⟨Int.le_trans B.1 (Int.le_max_right ..), Int.le_trans B.2.1 (Int.le_max_right ..), Int.le_trans B.2.2 (Int.le_max_right ..)⟩
  · rcases Int.le_total (mn a) (mn b) with q | q
    · refine .inl (le_mn.mpr ?_)
      rw [l1, l2, l3]
      exact ⟨Int.le_min.mpr ⟨A.1, Int.le_trans q B.1⟩, Int.le_min.mpr ⟨A.2.1, Int.le_trans q B.2.1⟩, Int.le_min.mpr ⟨A.2.2, Int.le_trans q B.2.2⟩⟩
    · refine .inr (le_mn.mpr ?_)
      rw [l1, l2, l3]
      exact ⟨Int.le_min.mpr ⟨Int.le_trans q A.1, B.1⟩, Int.le_min.mpr ⟨Int.le_trans q A.2.1, B.2.1⟩, Int.le_min.mpr ⟨Int.le_trans q A.2.2, B.2.2⟩⟩
theorem Meet.sums {a b a' b' : Lamp} (h : Meet a b a' b') : lum a + lum b = lum a' + lum b' ∧ warm a + warm b = warm a' + warm b' ∧ cool a + cool b = cool a' + cool b' := by
  obtain ⟨l1, l2, l3⟩ := h.lo3
  obtain ⟨u1, u2, u3⟩ := h.hi3
  have r := mm_sum a.r b.r
  have g := mm_sum a.g b.g
  have c := mm_sum a.b b.b
  rw [← l1, ← u1] at r
  rw [← l2, ← u2] at g
  rw [← l3, ← u3] at c
  clear l1 l2 l3 u1 u2 u3
  unfold lum warm cool
  refine ⟨?_, ?_, ?_⟩ <;> lia
theorem Meet.lum {a b a' b' : Lamp} (h : Meet a b a' b') (t : Int) : ov t (lum a) + ov t (Mine.lum b) ≤ ov t (Mine.lum a') + ov t (Mine.lum b') := by
  have h3 := h.sums.1
  have h1 := h.lo
  simp only [tr, mt, Prod.mk.injEq] at h1
  refine ov_pair t h3 ?_ ?_ <;> unfold Mine.lum <;> lia
/-- what the walk wants of a meeting -/
structure MeetOut (x0 x1 x2 x3 y0 y1 y2 y3 : Lamp) : Prop where
  top : Dom [mx x0, mx x1, mx x2, mx x3] [mx y0, mx y1, mx y2, mx y3]
  maj : Maj [Mine.lum x0, Mine.lum x1, Mine.lum x2, Mine.lum x3] [Mine.lum y0, Mine.lum y1, Mine.lum y2, Mine.lum y3]
  low : Dom [mn y0, mn y1, mn y2, mn y3] [mn x0, mn x1, mn x2, mn x3]
  s1 : Mine.lum x0 + (Mine.lum x1 + (Mine.lum x2 + (Mine.lum x3 + 0))) = Mine.lum y0 + (Mine.lum y1 + (Mine.lum y2 + (Mine.lum y3 + 0)))
  s2 : warm x0 + (warm x1 + (warm x2 + (warm x3 + 0))) = warm y0 + (warm y1 + (warm y2 + (warm y3 + 0)))
  s3 : cool x0 + (cool x1 + (cool x2 + (cool x3 + 0))) = cool y0 + (cool y1 + (cool y2 + (cool y3 + 0)))
theorem MeetOut.of {x0 x1 x2 x3 y0 y1 y2 y3 : Lamp} (h1 : ∀ t, le1 t (mx x0) + (le1 t (mx x1) + (le1 t (mx x2) + (le1 t (mx x3) + 0))) ≤ le1 t (mx y0) + (le1 t (mx y1) + (le1 t (mx y2) + (le1 t (mx y3) + 0))))
    (h2 : ∀ t, le1 t (mn y0) + (le1 t (mn y1) + (le1 t (mn y2) + (le1 t (mn y3) + 0))) ≤ le1 t (mn x0) + (le1 t (mn x1) + (le1 t (mn x2) + (le1 t (mn x3) + 0))))
    (h3 : ∀ t, ov t (Mine.lum x0) + (ov t (Mine.lum x1) + (ov t (Mine.lum x2) + (ov t (Mine.lum x3) + 0))) ≤ ov t (Mine.lum y0) + (ov t (Mine.lum y1) + (ov t (Mine.lum y2) + (ov t (Mine.lum y3) + 0))))
    (s1 : Mine.lum x0 + (Mine.lum x1 + (Mine.lum x2 + (Mine.lum x3 + 0))) = Mine.lum y0 + (Mine.lum y1 + (Mine.lum y2 + (Mine.lum y3 + 0))))
    (s2 : warm x0 + (warm x1 + (warm x2 + (warm x3 + 0))) = warm y0 + (warm y1 + (warm y2 + (warm y3 + 0))))
    (s3 : cool x0 + (cool x1 + (cool x2 + (cool x3 + 0))) = cool y0 + (cool y1 + (cool y2 + (cool y3 + 0)))) : MeetOut x0 x1 x2 x3 y0 y1 y2 y3 :=
  ⟨Dom_of (by simpa only [List.map_cons, List.map_nil, List.sum_cons, List.sum_nil] using h1), Maj_of rfl rfl (by simpa only [List.sum_cons, List.sum_nil] using s1) (by simpa only [List.map_cons, List.map_nil, List.sum_cons, List.sum_nil] using h3),
    Dom_of (by simpa only [List.map_cons, List.map_nil, List.sum_cons, List.sum_nil] using h2), s1, s2, s3⟩
theorem meet4 {i j : Nat} {x0 x1 x2 x3 a b a' b' : Lamp} (hp : (i, j) ∈ net5) (ha : [x0, x1, x2, x3][i]? = some a) (hb : [x0, x1, x2, x3][j]? = some b) (M : Meet a b a' b') (hB : ∀ x ∈ [x0, x1, x2, x3], Bd x) :
    ∃ y0 y1 y2 y3, (([Value.ref x0.T, .ref x1.T, .ref x2.T, .ref x3.T].set i (.ref a'.T)).set j (.ref b'.T)) = [.ref y0.T, .ref y1.T, .ref y2.T, .ref y3.T] ∧ (∀ y ∈ [y0, y1, y2, y3], y = a' ∨ y = b' ∨ y ∈ [x0, x1, x2, x3]) ∧
      stepN [tr x0, tr x1, tr x2, tr x3] (i, j) = [tr y0, tr y1, tr y2, tr y3] ∧ (∀ y ∈ [y0, y1, y2, y3], Bd y) ∧ MeetOut x0 x1 x2 x3 y0 y1 y2 y3 := by
  have t1 := M.top
  have t2 := M.low
  have t3 := M.lum
  obtain ⟨s1, s2, s3⟩ := M.sums
  have hbd : Bd a' ∧ Bd b' := M.bd (hB a (List.mem_of_getElem? ha)) (hB b (List.mem_of_getElem? hb))
  have hlo := M.lo
  have hhi := M.hi
  have b0 := hB x0 (by simp)
  have b1 := hB x1 (by simp)
  have b2 := hB x2 (by simp)
  have b3 := hB x3 (by simp)
  simp only [net5, List.mem_cons, Prod.mk.injEq, List.not_mem_nil, or_false] at hp
  rcases hp with ⟨rfl, rfl⟩ | ⟨rfl, rfl⟩ | ⟨rfl, rfl⟩ | ⟨rfl, rfl⟩ | ⟨rfl, rfl⟩ <;> simp only [List.getElem?_cons_zero, List.getElem?_cons_succ, Option.some.injEq] at ha hb <;> subst ha hb
  · refine ⟨a', b', x2, x3, rfl, by simp, by simp [stepN, hlo, hhi], by simp [hbd, b2, b3], .of (fun t => ?_) (fun t => ?_) (fun t => ?_) ?_ ?_ ?_⟩
    · have := t1 t; lia
    · have := t2 t; lia
    · have := t3 t; lia
    · lia
    · lia
    · lia
  · refine ⟨x0, x1, a', b', rfl, by simp, by simp [stepN, hlo, hhi], by simp [hbd, b0, b1], .of (fun t => ?_) (fun t => ?_) (fun t => ?_) ?_ ?_ ?_⟩
    · have := t1 t; lia
    · have := t2 t; lia
    · have := t3 t; lia
    · lia
    · lia
    · lia
  · refine ⟨a', x1, b', x3, rfl, by simp, by simp [stepN, hlo, hhi], by simp [hbd, b1, b3], .of (fun t => ?_) (fun t => ?_) (fun t => ?_) ?_ ?_ ?_⟩
    · have := t1 t; lia
    · have := t2 t; lia
    · have := t3 t; lia
    · lia
    · lia
    · lia
  · refine ⟨x0, a', x2, b', rfl, by simp, by simp [stepN, hlo, hhi], by simp [hbd, b0, b2], .of (fun t => ?_) (fun t => ?_) (fun t => ?_) ?_ ?_ ?_⟩
    · have := t1 t; lia
    · have := t2 t; lia
    · have := t3 t; lia
    · lia
    · lia
    · lia
  · refine ⟨x0, a', b', x3, rfl, by simp, by simp [stepN, hlo, hhi], by simp [hbd, b0, b3], .of (fun t => ?_) (fun t => ?_) (fun t => ?_) ?_ ?_ ?_⟩
    · have := t1 t; lia
    · have := t2 t; lia
    · have := t3 t; lia
    · lia
    · lia
    · lia
/-- items that are pairs of places -/
inductive PrsAre (kl : List (Addr × Obj)) : List Itm → List (Nat × Nat) → Prop
  | nil : PrsAre kl [] []
  | cons {a : Addr} {i j : Nat} {t u : Tok} {its : List Itm} {ps : List (Nat × Nat)} (hm : (a, tupOb #[.int (i : Int) t, .int (j : Int) u]) ∈ kl) (r : PrsAre kl its ps) : PrsAre kl (.val (.ref a) :: its) ((i, j) :: ps)
theorem PrsAre.more {kl kl' : List (Addr × Obj)} (h : ∀ q ∈ kl, q ∈ kl') : ∀ {its : List Itm} {ps : List (Nat × Nat)}, PrsAre kl its ps → PrsAre kl' its ps
  | _, _, .nil => .nil
  | _, _, .cons hm r => .cons (h _ hm) (r.more h)
theorem know2 {m : Str → Option Value} {x1 x2 : Str} {v1 v2 : Value} (h1 : m x1 = some v1) (h2 : m x2 = some v2) :
    m = fun y => if y = x1 then some v1 else if y = x2 then some v2 else m y := by
  funext y
  by_cases e1 : y = x1
  · rw [if_pos e1, e1, h1]
  · rw [if_neg e1]
    by_cases e2 : y = x2
    · rw [if_pos e2, e2, h2]
    · rw [if_neg e2]
end Mine
namespace Mine
theorem Bd.mx {l : Lamp} (h : Bd l) : (0 ≤ Mine.mx l ∧ Mine.mx l ≤ 60) ∧ (0 ≤ mn l ∧ mn l ≤ 60) := by
  unfold Bd at h
  unfold Mine.mx mn
  lia
end Mine
namespace Mine
noncomputable def okA (r : List Nat) : Bool := !(decide (r.getD 0 0 ≤ r.getD 1 0) && decide (r.getD 1 0 ≤ r.getD 2 0) && decide (r.getD 2 0 ≤ r.getD 3 0)) || match runO 4 (fun i j => decide (r.getD i 0 < r.getD j 0)) (kas_sort 4) with
  | some p => p.toList == [0, 1, 2, 3]
  | none => false
theorem okA_all : ((List.range 4).all fun a => (List.range 4).all fun b => (List.range 4).all fun c => (List.range 4).all fun d => okA [a, b, c, d]) = true := by decide +kernel
theorem sort4_asc {a b c d : Int} (ho : a ≤ b ∧ b ≤ c ∧ c ≤ d) : ∃ p, runO 4 (fun i j => decide ([a, b, c, d].getD i 0 < [a, b, c, d].getD j 0)) (kas_sort 4) = some p ∧ p.toList = [0, 1, 2, 3] := by
  have mem : ∀ i, i < 4 → [a, b, c, d].getD i 0 ∈ [a, b, c, d] := by
    intro i hi
    match i, hi with
    | 0, _ => exact .head _
    | 1, _ => exact .tail _ (.head _)
    | 2, _ => exact .tail _ (.tail _ (.head _))
    | 3, _ => exact .tail _ (.tail _ (.tail _ (.head _)))
    | n + 4, h => exact absurd h (by lia)
  have key : ∀ i, i < 4 → [rk [a, b, c, d] a, rk [a, b, c, d] b, rk [a, b, c, d] c, rk [a, b, c, d] d].getD i 0 = rk [a, b, c, d] ([a, b, c, d].getD i 0) := by
    intro i hi
    match i, hi with
    | 0, _ => rfl
    | 1, _ => rfl
    | 2, _ => rfl
    | 3, _ => rfl
    | n + 4, h => exact absurd h (by lia)
  have h := okA_all
  have h1 := List.all_eq_true.mp (List.all_eq_true.mp (List.all_eq_true.mp (List.all_eq_true.mp h (rk [a, b, c, d] a) (List.mem_range.mpr (rk_bound (.head _)))) (rk [a, b, c, d] b) (List.mem_range.mpr (rk_bound (.tail _ (.head _)))))
    (rk [a, b, c, d] c) (List.mem_range.mpr (rk_bound (.tail _ (.tail _ (.head _)))))) (rk [a, b, c, d] d) (List.mem_range.mpr (rk_bound (.tail _ (.tail _ (.tail _ (.head _))))))
  unfold okA at h1
  rw [runO_congr (lt' := fun i j => decide ([a, b, c, d].getD i 0 < [a, b, c, d].getD j 0)) (fun i j hi hj => by
    show decide (_ < _) = _
    rw [key i hi, key j hj, ← rk_iff (mem i hi) (mem j hj)])] at h1
  have hm : (decide ([rk [a, b, c, d] a, rk [a, b, c, d] b, rk [a, b, c, d] c, rk [a, b, c, d] d].getD 0 0 ≤ [rk [a, b, c, d] a, rk [a, b, c, d] b, rk [a, b, c, d] c, rk [a, b, c, d] d].getD 1 0) &&
      decide ([rk [a, b, c, d] a, rk [a, b, c, d] b, rk [a, b, c, d] c, rk [a, b, c, d] d].getD 1 0 ≤ [rk [a, b, c, d] a, rk [a, b, c, d] b, rk [a, b, c, d] c, rk [a, b, c, d] d].getD 2 0) &&
      decide ([rk [a, b, c, d] a, rk [a, b, c, d] b, rk [a, b, c, d] c, rk [a, b, c, d] d].getD 2 0 ≤ [rk [a, b, c, d] a, rk [a, b, c, d] b, rk [a, b, c, d] c, rk [a, b, c, d] d].getD 3 0)) = true := by
    rw [Bool.and_eq_true, Bool.and_eq_true]
    exact ⟨⟨decide_eq_true (show rk [a, b, c, d] a ≤ rk [a, b, c, d] b from rk_mono _ ho.1), decide_eq_true (show rk [a, b, c, d] b ≤ rk [a, b, c, d] c from rk_mono _ ho.2.1)⟩, decide_eq_true (show rk [a, b, c, d] c ≤ rk [a, b, c, d] d from rk_mono _ ho.2.2)⟩
  rw [hm, Bool.not_true, Bool.false_or] at h1
  split at h1
  · rename_i p hp
    exact ⟨p, hp, eq_of_beq h1⟩
  · cases h1
section
variable {prog : Program} {w : World} {A : Around} {E : Value → Shared → Prop} {s : Shared} {h₀ : Heap} {L l l' : Addr} {m : Str → Option Value} {news : List (Addr × Obj)} {Q : Value → Shared → Prop}
theorem eq_same4 {a b c d : Value} {k k' : Nat} (N : News h₀ L s.heap news)
    (m1 : (l, W.listOf [a, b, c, d].toArray k) ∈ news) (m2 : (l', W.listOf [a, b, c, d].toArray k') ∈ news)
    (hu : A.units + 64 < cLine) (h : Q (.bool true) s) : wpAny (model prog w) A (compareOp .Eq (.ref l) (.ref l')) Q E s :=
  PySem.SeqAt.RcAt.lists (e := fun _ => true) (News.isList N m1) (News.isList N m2) rfl (by lia) (fun j h1 h2 => PySem.SeqAt.EqAt.same _) prog w E Q h
theorem eq_lamps {x0 x1 x2 x3 c0 c1 c2 c3 : Lamp} {k k' : Nat} (N : News h₀ L s.heap news) (m1 : (l, W.listOf [Value.ref x0.T, .ref x1.T, .ref x2.T, .ref x3.T].toArray k) ∈ news) (m2 : (l', W.listOf [Value.ref c0.T, .ref c1.T, .ref c2.T, .ref c3.T].toArray k') ∈ news)
    (hx : ∀ x ∈ [x0, x1, x2, x3], lamE x ∈ news) (hc : ∀ x ∈ [c0, c1, c2, c3], lamE x ∈ news) (e : [tr x0, tr x1, tr x2, tr x3] = [tr c0, tr c1, tr c2, tr c3]) (hu : A.units + 64 < cLine) (h : Q (.bool true) s) :
    wpAny (model prog w) A (compareOp .Eq (.ref l) (.ref l')) Q E s := by
  have T : ∀ x : Lamp, lamE x ∈ news → Reads s.heap (.ref x.T) (.tuple [.int (tr x).1, .int (tr x).2.1, .int (tr x).2.2]) ([] ++ ([] ++ ([] ++ []))) := fun x hx =>
    reads_tuple_at (N.get hx) rfl rfl (.cons (.int _ _) (.cons (.int _ _) (.cons (.int _ _) .nil)))
  simp only [List.cons.injEq, and_true] at e
  have R1 := reads_list_at (xs := [PyData.tuple _, .tuple _, .tuple _, .tuple _]) (N.get m1) rfl rfl (.cons (T x0 (hx x0 (by simp))) (.cons (T x1 (hx x1 (by simp))) (.cons (T x2 (hx x2 (by simp))) (.cons (T x3 (hx x3 (by simp))) .nil))))
  have R2 := reads_list_at (xs := [PyData.tuple _, .tuple _, .tuple _, .tuple _]) (N.get m2) rfl rfl (.cons (T c0 (hc c0 (by simp))) (.cons (T c1 (hc c1 (by simp))) (.cons (T c2 (hc c2 (by simp))) (.cons (T c3 (hc c3 (by simp))) .nil))))
  rw [e.1, e.2.1, e.2.2.1, e.2.2.2] at R1
  refine eq_dataH R1 R2 (by simp [SeqAt.shaped, PyData.canLay0, PyData.canLayAll0, PyData.depth, PyData.depthAll]) (by simp [SeqAt.shaped, PyData.canLay0, PyData.canLayAll0, PyData.depth, PyData.depthAll]) hu ?_
  simpa [PyData.eqv, PyData.eqvAll] using h
theorem four_same {x y z u a b c d : Int} (hp : [x, y, z, u].Perm [a, b, c, d]) (h1 : x ≤ y ∧ y ≤ z ∧ z ≤ u) (h2 : a ≤ b ∧ b ≤ c ∧ c ≤ d) : x = a ∧ y = b ∧ z = c ∧ u = d := by
  have D : Dom [a, b, c, d] [a, b, c, d] := Dom_of fun _ => Int.le_refl _
  have d1 := D x y z u a b c d hp h1 (List.Perm.refl _) h2
  have d2 := D a b c d x y z u (List.Perm.refl _) h2 hp h1
  lia
theorem sorted_fi_asc {a b c d : Int} {t0 t1 t2 t3 : Tok} {k : Nat} (ha : 0 ≤ a ∧ a ≤ 60) (hb : 0 ≤ b ∧ b ≤ 60) (hc : 0 ≤ c ∧ c ≤ 60) (hd : 0 ≤ d ∧ d ≤ 60) (ho : a ≤ b ∧ b ≤ c ∧ c ≤ d)
    (F : Fr h₀ L s.heap m) (N : News h₀ L s.heap news) (hm : (l, W.listOf [Value.float (FI a) t0, .float (FI b) t1, .float (FI c) t2, .float (FI d) t3].toArray k) ∈ news)
    (h : ∀ D k h', Fr h₀ L h' m → News h₀ L h' ((D, W.listOf [Value.float (FI a) t0, .float (FI b) t1, .float (FI c) t2, .float (FI d) t3].toArray k) :: news) → (∀ q ∈ news, q.1 < D) → Q (.ref D) { s with heap := h' }) :
    wpAny (model prog w) A (call (.builtin "sorted") [.ref l]) Q E s := by
  refine kas_sorted (T := .type "float") (vs := [.float (FI a) t0, .float (FI b) t1, .float (FI c) t2, .float (FI d) t3]) F N (News.isList N hm) (by show 2 ≤ 4; lia) (by show 4 < 64; lia) ?_ rfl ?_
  · intro h F N v hv
    simp only [List.mem_cons, List.not_mem_nil, or_false] at hv
    rcases hv with rfl | rfl | rfl | rfl <;> exact Looks.of_pure rfl
  · intro D e1 h' F' N' l1
    obtain ⟨p, hp, hpl⟩ := sort4_asc ho
    have at_ : ∀ i, i < 4 → ∃ t, [Value.float (FI a) t0, .float (FI b) t1, .float (FI c) t2, .float (FI d) t3].getD i Value.none = .float (FI ([a, b, c, d].getD i 0)) t ∧ 0 ≤ [a, b, c, d].getD i 0 ∧ [a, b, c, d].getD i 0 ≤ 60 := by
      intro i hi
      match i, hi with
      | 0, _ => exact ⟨t0, rfl, ha⟩
      | 1, _ => exact ⟨t1, rfl, hb⟩
      | 2, _ => exact ⟨t2, rfl, hc⟩
      | 3, _ => exact ⟨t3, rfl, hd⟩
      | n + 4, h => exact absurd h (by lia)
    refine runO_wp (n := 4) (lt := fun i j => decide ([a, b, c, d].getD i 0 < [a, b, c, d].getD j 0)) (fun i j hi hj C s' hC => ?_) _ _ p hp ?_
    · obtain ⟨ti, ei, bi⟩ := at_ i hi
      obtain ⟨tj, ej, bj⟩ := at_ j hj
      unfold kas_ask
      rw [ei, ej]
      exact kas_lt_fi bi bj hC
    · have U : UpdF D (seqObj "list" #[] e1) ((D, seqObj "list" #[] e1) :: news) (fun o' => (D, o') :: news) := .head fun p hp => Nat.ne_of_lt (l1 p hp)
      rw [hpl]
      exact KasFin.intro F' N' U fun h2 k F2 N2 => h D k h2 F2 N2 l1
theorem sorted_int_asc {vs : List Value} {a b c d : Int} {k : Nat} (ho : a ≤ b ∧ b ≤ c ∧ c ≤ d) (F : Fr h₀ L s.heap m) (N : News h₀ L s.heap news) (hi : IntsAre vs [a, b, c, d]) (hm : (l, W.listOf vs.toArray k) ∈ news)
    (h : ∀ D vs' k h', Fr h₀ L h' m → News h₀ L h' ((D, W.listOf vs'.toArray k) :: news) → (∀ q ∈ news, q.1 < D) → IntsAre vs' [a, b, c, d] → Q (.ref D) { s with heap := h' }) :
    wpAny (model prog w) A (call (.builtin "sorted") [.ref l]) Q E s := by
  refine kso_sorted F N (News.isList N hm) hi (by show 4 < 64; lia) fun D vs' ns' k h' F' N' l1 hi' hl hp hs _ => ?_
  match ns', hl with
  | [x, y, z, u], _ =>
    simp only [List.pairwise_cons, List.mem_cons, List.not_mem_nil, or_false, forall_eq_or_imp, forall_eq] at hs
    obtain ⟨rfl, rfl, rfl, rfl⟩ := four_same hp (by lia) ho
    exact h D vs' k h' F' N' l1 hi'
theorem eq_ints_same {vs us : List Value} {a b c d : Int} {k k' : Nat} (N : News h₀ L s.heap news) (m1 : (l, W.listOf vs.toArray k) ∈ news) (m2 : (l', W.listOf us.toArray k') ∈ news) (h1 : IntsAre vs [a, b, c, d]) (h2 : IntsAre us [a, b, c, d]) (hu : A.units + 64 < cLine)
    (h : Q (.bool true) s) : wpAny (model prog w) A (compareOp .Eq (.ref l) (.ref l')) Q E s := by
  refine eq_intsK (News.isList N m1) h1 (News.isList N m2) h2 hu ?_
  rw [decide_eq_true rfl]
  exact h
end
end Mine
namespace Mine
theorem mono_l {x y : Lamp} (r : x.r ≤ y.r) (g : x.g ≤ y.g) (b : x.b ≤ y.b) : mx x ≤ mx y ∧ mn x ≤ mn y ∧ lum x ≤ lum y := by
  have A := mx_le.mp (Int.le_refl (mx y))
  have B := le_mn.mp (Int.le_refl (mn x))
  exact ⟨mx_le.mpr ⟨Int.le_trans r A.1, Int.le_trans g A.2.1, Int.le_trans b A.2.2⟩, le_mn.mpr ⟨Int.le_trans B.1 r, Int.le_trans B.2.1 g, Int.le_trans B.2.2 b⟩, by clear A B; unfold lum; lia⟩
theorem asc_of {x0 x1 x2 x3 c0 c1 c2 c3 : Lamp} (e : [tr x0, tr x1, tr x2, tr x3] = [tr c0, tr c1, tr c2, tr c3])
    (hC : (c0.r ≤ c1.r ∧ c1.r ≤ c2.r ∧ c2.r ≤ c3.r) ∧ (c0.g ≤ c1.g ∧ c1.g ≤ c2.g ∧ c2.g ≤ c3.g) ∧ (c0.b ≤ c1.b ∧ c1.b ≤ c2.b ∧ c2.b ≤ c3.b)) :
    (mx x0 ≤ mx x1 ∧ mx x1 ≤ mx x2 ∧ mx x2 ≤ mx x3) ∧ (mn x0 ≤ mn x1 ∧ mn x1 ≤ mn x2 ∧ mn x2 ≤ mn x3) ∧ (lum x0 ≤ lum x1 ∧ lum x1 ≤ lum x2 ∧ lum x2 ≤ lum x3) := by
  simp only [tr, List.cons.injEq, Prod.mk.injEq, and_true] at e
  obtain ⟨⟨a0, b0, d0⟩, ⟨a1, b1, d1⟩, ⟨a2, b2, d2⟩, a3, b3, d3⟩ := e
  obtain ⟨⟨r0, r1, r2⟩, ⟨g0, g1, g2⟩, k0, k1, k2⟩ := hC
  rw [← a0, ← a1] at r0
  rw [← a1, ← a2] at r1
  rw [← a2, ← a3] at r2
  rw [← b0, ← b1] at g0
  rw [← b1, ← b2] at g1
  rw [← b2, ← b3] at g2
  rw [← d0, ← d1] at k0
  rw [← d1, ← d2] at k1
  rw [← d2, ← d3] at k2
  have m0 := mono_l r0 g0 k0
  have m1 := mono_l r1 g1 k1
  have m2 := mono_l r2 g2 k2
  exact ⟨⟨m0.1, m1.1, m2.1⟩, ⟨m0.2.1, m1.2.1, m2.2.1⟩, m0.2.2, m1.2.2, m2.2.2⟩
end Mine
namespace Mine
theorem len_Lk {prog : Program} {w : World} {A : Around} {E : Value → Shared → Prop} {s : Shared} {h₀ : Heap} {L l : Addr} {news : List (Addr × Obj)} {Q : Value → Shared → Prop} {xs : List Value} {c : Nat} (z : Int) (N : News h₀ L s.heap news) (hm : (l, W.listOf xs.toArray c) ∈ news) (hz : (xs.length : Int) = z) (h8 : z ≤ 8)
    (h : Q (.int z (s.toks + 1)) { s with toks := s.toks + 1 + 1 }) : wpAny (model prog w) A (call (.builtin "len") [.ref l]) Q E s := by
  have e : (xs.toArray.size : Int) = z := by rw [List.size_toArray]; exact hz
  exact Calls.call_len_list (News.isList N hm) (by lia) (by rw [e]; exact h)
end Mine
end
section
open PySem PySem.W PyProof.Rows PySem.Calls
set_option maxRecDepth 100000
namespace Mine
/-- the state of the loop of _law_seen -/
inductive seJ (need : List (Addr × Obj)) (es : List Lamp) (I A1 A2 A3 : Addr) (its : List Itm) (m : Str → Option Value) (n : List (Addr × Obj)) : Prop
  | mk (done todo : List Lamp) (xs ys zs : List Value) (S kl : List (Addr × Obj)) (h1 : m (Str.ofString "tops") = some (.ref A1)) (h2 : m (Str.ofString "lows") = some (.ref A2)) (h3 : m (Str.ofString "tints") = some (.ref A3))
    (he : es = done ++ todo) (hi : its = todo.map (fun l => Itm.val (.ref l.T))) (hn : ∀ q, q ∈ (A1, LCg.lst xs) :: (A2, LCg.lst ys) :: (A3, LCg.lst zs) :: kl → q ∈ n)
    (fx : FlAre xs (done.map topX)) (fy : FlAre ys (done.map lowX)) (ft : TinAre zs S done) (hS : ∀ q ∈ S, q ∈ kl) (hk : ∀ q ∈ need, q ∈ kl) (hSa : ∀ q ∈ S, ∀ r ∈ need, r.1 ≠ q.1)
    (k1 : ∀ q ∈ kl, q.1 ≠ A1) (k2 : ∀ q ∈ kl, q.1 ≠ A2) (k3 : ∀ q ∈ kl, q.1 ≠ A3) (kI : ∀ q ∈ kl, q.1 ≠ I) : seJ need es I A1 A2 A3 its m n
/-- what the turn at the lamp l keeps for the next one -/
inductive SeT (need : List (Addr × Obj)) (es : List Lamp) (r : List Itm) (l : Lamp) (xs ys zs : List Value) (kl : List (Addr × Obj)) : Prop
  | mk (done todo : List Lamp) (S : List (Addr × Obj)) (he : es = done ++ l :: todo) (hr : r = todo.map (fun l => Itm.val (.ref l.T)))
    (fx : FlAre xs (done.map topX)) (fy : FlAre ys (done.map lowX)) (ft : TinAre zs S done) (hS : ∀ q ∈ S, q ∈ kl) (hk : ∀ q ∈ need, q ∈ kl) (hSa : ∀ q ∈ S, ∀ r ∈ need, r.1 ≠ q.1) : SeT need es r l xs ys zs kl
theorem seJ.open {need : List (Addr × Obj)} {es : List Lamp} {I A1 A2 A3 : Addr} {a : Itm} {r : List Itm} {m : Str → Option Value} {n : List (Addr × Obj)} {v : Value} {h g : Heap} {L : Addr} {C : Prop}
    (ok : ∀ l ∈ es, LampOk l) (hl4 : es.length ≤ 8) (hmem : ∀ l ∈ es, lamE l ∈ need) (hI : seJ need es I A1 A2 A3 (a :: r) m n) (hv : a.Is v h) (F : Fr g L h m)
    (k : ∀ (l : Lamp) (xs ys zs : List Value) (kl : List (Addr × Obj)), SeT need es r l xs ys zs kl → LampOk l → lamE l ∈ kl → xs.length ≤ 8 → ys.length ≤ 8 → zs.length ≤ 8 →
      (∀ q, q ∈ (A1, LCg.lst xs) :: (A2, LCg.lst ys) :: (A3, LCg.lst zs) :: kl → q ∈ n) → (∀ q ∈ kl, q.1 ≠ A1) → (∀ q ∈ kl, q.1 ≠ A2) → (∀ q ∈ kl, q.1 ≠ A3) → (∀ q ∈ kl, q.1 ≠ I) →
      Fr g L h (fun y => if y = Str.ofString "tops" then some (.ref A1) else if y = Str.ofString "lows" then some (.ref A2) else if y = Str.ofString "tints" then some (.ref A3) else m y) → v = .ref l.T → C) : C := by
  obtain ⟨done, todo, xs, ys, zs, S, kl, h1, h2, h3, he, hi, hn, fx, fy, ft, hS, hk, hSa, k1, k2, k3, kI⟩ := hI
  cases todo with
  | nil => exact nomatch hi
  | cons l rest =>
    injection hi with hi1 hi2
    subst hi1
    have hv' : v = .ref l.T := hv
    have hl : l ∈ es := by rw [he]; exact List.mem_append_right _ (List.mem_cons_self ..)
    have hd : done.length ≤ 8 := by
      have := congrArg List.length he
      rw [List.length_append] at this
      omega
    refine k l xs ys zs kl ⟨done, rest, S, he, hi2, fx, fy, ft, hS, hk, hSa⟩ (ok l hl) (hk _ (hmem l hl)) ?_ ?_ ?_ hn k1 k2 k3 kI ?_ hv'
    · rw [fx.len, List.length_map]; exact hd
    · rw [fy.len, List.length_map]; exact hd
    · rw [ft.len2]; exact hd
    · rw [← know3 h1 h2 h3]; exact F
theorem seJ.next {need : List (Addr × Obj)} {es : List Lamp} {I A1 A2 A3 : Addr} {r : List Itm} {l : Lamp} {xs ys zs : List Value} {kl : List (Addr × Obj)} (T : SeT need es r l xs ys zs kl)
    {m : Str → Option Value} {d : Addr} {b1 b2 b3 b4 b5 : Tok} (h1 : m (Str.ofString "tops") = some (.ref A1)) (h2 : m (Str.ofString "lows") = some (.ref A2)) (h3 : m (Str.ofString "tints") = some (.ref A3))
    (k1 : ∀ q ∈ kl, q.1 ≠ A1) (k2 : ∀ q ∈ kl, q.1 ≠ A2) (k3 : ∀ q ∈ kl, q.1 ≠ A3) (kI : ∀ q ∈ kl, q.1 ≠ I) (d1 : d ≠ A1) (d2 : d ≠ A2) (d3 : d ≠ A3) (dI : d ≠ I) (dk : ∀ q ∈ kl, q.1 ≠ d) :
    seJ need es I A1 A2 A3 r m ((A1, LCg.lst (xs ++ [.float (topX l) b4])) :: (A2, LCg.lst (ys ++ [.float (lowX l) b5])) :: (A3, LCg.lst (zs ++ [.ref d])) :: (d, tupOb #[.int (lum l) b1, .int (warm l) b2, .int (cool l) b3]) :: kl) := by
  obtain ⟨done, todo, S, he, hr, fx, fy, ft, hS, hk, hSa⟩ := T
  refine ⟨done ++ [l], todo, _, _, _, S ++ [(d, tupOb #[.int (lum l) b1, .int (warm l) b2, .int (cool l) b3])], _, h1, h2, h3, by rw [he]; simp, hr, fun q hq => hq, by rw [List.map_append]; exact fx.snoc, by rw [List.map_append]; exact fy.snoc, ft.snoc, ?_, fun q hq => .tail _ (hk q hq), ?_, ?_, ?_, ?_, ?_⟩
  · intro q hq
    rcases List.mem_append.mp hq with hq | hq
    · exact .tail _ (hS q hq)
    · rw [List.mem_singleton.mp hq]; exact .head _
  · intro q hq
    rcases List.mem_append.mp hq with hq | hq
    · exact hSa q hq
    · rw [List.mem_singleton.mp hq]; exact fun r hr => dk r (hk r hr)
  · exact List.forall_mem_cons.mpr ⟨d1, k1⟩
  · exact List.forall_mem_cons.mpr ⟨d2, k2⟩
  · exact List.forall_mem_cons.mpr ⟨d3, k3⟩
  · exact List.forall_mem_cons.mpr ⟨dI, kI⟩
theorem seJ.fin {need : List (Addr × Obj)} {p0 p1 p2 p3 : Lamp} {I A1 A2 A3 : Addr} {m : Str → Option Value} {n : List (Addr × Obj)} {h g : Heap} {L : Addr} {C : Prop}
    (ok : ∀ l ∈ [p0, p1, p2, p3], LampOk l) (hI : seJ need [p0, p1, p2, p3] I A1 A2 A3 [] m n) (F : Fr g L h m) (N : News g L h n)
    (k : ∀ (d0 d1 d2 d3 : Addr) (t : Nat → Tok) (K : List (Addr × Obj)), (∀ R, (∀ q ∈ K, q.1 ≠ R) → (∀ p ∈ seenNew R A1 A2 A3 d0 d1 d2 d3 t p0 p1 p2 p3, ∀ q ∈ need, q.1 ≠ p.1)) →
      (∀ R, ∀ p ∈ seenNew R A1 A2 A3 d0 d1 d2 d3 t p0 p1 p2 p3 ++ need, p ∈ (R, tupOb #[.ref A1, .ref A2, .ref A3]) :: K) → News g L h K →
      Fr g L h (fun y => if y = Str.ofString "tops" then some (.ref A1) else if y = Str.ofString "lows" then some (.ref A2) else if y = Str.ofString "tints" then some (.ref A3) else m y) → C) : C := by
  obtain ⟨done, todo, xs, ys, zs, S, kl, h1, h2, h3, he, hi, hn, fx, fy, ft, hS, hk, hSa, k1, k2, k3, kI⟩ := hI
  have ht : todo = [] := by cases todo with
    | nil => rfl
    | cons l r => exact nomatch hi
  rw [ht, List.append_nil] at he
  rw [← he] at fx fy ft
  have fx : FlAre xs [FI (mx p0), FI (mx p1), FI (mx p2), FI (mx p3)] := by
    rw [← (ok p0 (.head _)).top, ← (ok p1 (.tail _ (.head _))).top, ← (ok p2 (.tail _ (.tail _ (.head _)))).top, ← (ok p3 (.tail _ (.tail _ (.tail _ (.head _))))).top]
    exact fx
  have fy : FlAre ys [FI (mn p0), FI (mn p1), FI (mn p2), FI (mn p3)] := by
    rw [← (ok p0 (.head _)).low, ← (ok p1 (.tail _ (.head _))).low, ← (ok p2 (.tail _ (.tail _ (.head _)))).low, ← (ok p3 (.tail _ (.tail _ (.tail _ (.head _))))).low]
    exact fy
  obtain ⟨t0, t1, t2, t3, ex⟩ := fx.four
  obtain ⟨u0, u1, u2, u3, ey⟩ := fy.four
  obtain ⟨d0, d1, d2, d3, tt, ez, eS⟩ := ft.four
  have hA : ∀ q ∈ (A1, LCg.lst xs) :: (A2, LCg.lst ys) :: (A3, LCg.lst zs) :: S ++ need, q ∈ (A1, LCg.lst xs) :: (A2, LCg.lst ys) :: (A3, LCg.lst zs) :: kl := fun q hq => by
    simp only [List.cons_append, List.mem_cons, List.mem_append] at hq ⊢
    exact hq.imp_right (Or.imp_right (Or.imp_right fun h => h.elim (hS q) (hk q)))
  have hB : ∀ p ∈ (A1, LCg.lst xs) :: (A2, LCg.lst ys) :: (A3, LCg.lst zs) :: S, ∀ q ∈ need, q.1 ≠ p.1 := fun p hp q hq => by
    simp only [List.mem_cons] at hp
    exact hp.elim (fun e => e ▸ k1 q (hk q hq)) fun hp => hp.elim (fun e => e ▸ k2 q (hk q hq)) fun hp => hp.elim (fun e => e ▸ k3 q (hk q hq)) fun h => hSa p h q hq
  refine k d0 d1 d2 d3 (fun i => if i < 12 then tt i else [t0, t1, t2, t3, u0, u1, u2, u3].getD (i - 12) 0) _ ?_ ?_ (News.less N hn) (kn h1 (kn h2 (kn h3 rfl)) ▸ F)
  · intro R hR p hp q hq
    rw [ex, ey, ez, eS] at hB
    exact (List.mem_cons.mp hp).elim (fun e => e ▸ hR q (.tail _ (.tail _ (.tail _ (hk q hq))))) fun h => hB p h q hq
  · intro R p hp
    rw [ex, ey, ez, eS] at hA
    rw [ex, ey, ez]
    exact (List.mem_cons.mp hp).elim (fun e => List.mem_cons.mpr (.inl e)) fun h => .tail _ (hA p h)
theorem seJ.start {need : List (Addr × Obj)} {es : List Lamp} {I A1 A2 A3 : Addr} {m : Str → Option Value} {n : List (Addr × Obj)} (h1 : m (Str.ofString "tops") = some (.ref A1)) (h2 : m (Str.ofString "lows") = some (.ref A2)) (h3 : m (Str.ofString "tints") = some (.ref A3))
    (hn : ∀ q, q ∈ (A1, LCg.lst []) :: (A2, LCg.lst []) :: (A3, LCg.lst []) :: need → q ∈ n) (k1 : ∀ q ∈ need, q.1 ≠ A1) (k2 : ∀ q ∈ need, q.1 ≠ A2) (k3 : ∀ q ∈ need, q.1 ≠ A3) (kI : ∀ q ∈ need, q.1 ≠ I) :
    seJ need es I A1 A2 A3 (es.map fun l => Itm.val (.ref l.T)) m n :=
  ⟨[], es, [], [], [], [], need, h1, h2, h3, rfl, rfl, hn, .nil, .nil, .nil, List.forall_mem_nil _, fun q hq => hq, List.forall_mem_nil _, k1, k2, k3, kI⟩
theorem SeT.need {need : List (Addr × Obj)} {es : List Lamp} {r : List Itm} {l : Lamp} {xs ys zs : List Value} {kl : List (Addr × Obj)} (T : SeT need es r l xs ys zs kl) : ∀ q ∈ need, q ∈ kl := by
  cases T
  assumption
theorem sub48 {α : Type} {d x y z i a b c : α} {K : List α} (q : α) (h : q ∈ a :: b :: c :: d :: K) : q ∈ d :: x :: y :: z :: i :: a :: b :: c :: K := by
  simp only [List.mem_cons] at h ⊢
  exact h.elim (fun h => .inr (.inr (.inr (.inr (.inr (.inl h)))))) fun h => h.elim (fun h => .inr (.inr (.inr (.inr (.inr (.inr (.inl h))))))) fun h => h.elim (fun h => .inr (.inr (.inr (.inr (.inr (.inr (.inr (.inl h)))))))) fun h => h.elim .inl fun h => .inr (.inr (.inr (.inr (.inr (.inr (.inr (.inr h)))))))
theorem off4 {A B C D I : Addr} {a b c d o : Obj} {K : List (Addr × Obj)} (h1 : A ≠ I) (h2 : B ≠ I) (h3 : C ≠ I) (h4 : D ≠ I) (h5 : ∀ q ∈ K, q.1 ≠ I) (p : Addr × Obj) (h : p ∈ (A, a) :: (B, b) :: (C, c) :: (D, d) :: K) (q : Addr × Obj) (hq : q ∈ [(I, o)]) : p.1 ≠ q.1 := by
  rw [List.mem_singleton.mp hq]
  simp only [List.mem_cons] at h
  exact h.elim (fun h => h ▸ h1) fun h => h.elim (fun h => h ▸ h2) fun h => h.elim (fun h => h ▸ h3) fun h => h.elim (fun h => h ▸ h4) (h5 p)
end Mine
end
section
open PySem PySem.W PyProof.Rows PySem.Calls
set_option maxRecDepth 100000
namespace Mine
/-- the state of the loop of _law_untangled -/
inductive unJ (P : Addr) (cP : Nat) (L' I aC : Addr) (kst : List (Addr × Obj)) (target : List Tr) (its : List Itm) (m : Str → Option Value) (n : List (Addr × Obj)) : Prop
  | mk (R A1 A2 A3 e0 e1 e2 e3 : Addr) (t : Nat → Tok) (x0 x1 x2 x3 : Lamp) (oO oN oL : Obj) (vO vN : Option Value) (kl : List (Addr × Obj)) (ps : List (Nat × Nat))
    (h1 : m (Str.ofString "old") = some (.ref R)) (h2 : m (Str.ofString "chain") = some (.ref aC))
    (hn : ∀ q, q ∈ (P, W.listOf [Value.ref x0.T, .ref x1.T, .ref x2.T, .ref x3.T].toArray cP) :: (L' + 1 + 1 + 1, oO) :: (L' + 1 + 1, oN) :: (L' + 1, oL) :: kl → q ∈ n)
    (dO : oO.data = Data.cell vO) (dN : oN.data = Data.cell vN) (dL : oL.data = Data.cell (some (.ref P)))
    (kP : ∀ q ∈ kl, q.1 ≠ P) (k1 : ∀ q ∈ kl, q.1 ≠ L' + 1) (k2 : ∀ q ∈ kl, q.1 ≠ L' + 1 + 1) (k3 : ∀ q ∈ kl, q.1 ≠ L' + 1 + 1 + 1) (kI : ∀ q ∈ kl, q.1 ≠ I)
    (hs : ∀ q ∈ seenNew R A1 A2 A3 e0 e1 e2 e3 t x0 x1 x2 x3, q ∈ kl) (hl : ∀ l ∈ [x0, x1, x2, x3], lamE l ∈ kl) (hk : ∀ q ∈ kst, q ∈ kl) (hb : ∀ l ∈ [x0, x1, x2, x3], Bd l)
    (hp : PrsAre kl its ps) (ht : ∀ p ∈ ps, p ∈ net5) (hf : ps.foldl stepN [tr x0, tr x1, tr x2, tr x3] = target) : unJ P cP L' I aC kst target its m n
/-- what a turn keeps for the next one -/
structure UnT (kl kst : List (Addr × Obj)) (target : List Tr) (r : List Itm) (R A1 A2 A3 e0 e1 e2 e3 : Addr) (t : Nat → Tok) (x0 x1 x2 x3 la lb : Lamp) (vs : List Value) (iI jI : Int) (i j : Nat) (ps : List (Nat × Nat)) : Prop where
  hi : iI = i
  hj : jI = j
  hvs : vs = [Value.ref x0.T, .ref x1.T, .ref x2.T, .ref x3.T]
  hij : (i, j) ∈ net5
  hla : [x0, x1, x2, x3][i]? = some la
  hlb : [x0, x1, x2, x3][j]? = some lb
  seen : ∀ q ∈ seenNew R A1 A2 A3 e0 e1 e2 e3 t x0 x1 x2 x3, q ∈ kl
  lam : ∀ l ∈ [x0, x1, x2, x3], lamE l ∈ kl
  kst : ∀ q ∈ kst, q ∈ kl
  bd : ∀ l ∈ [x0, x1, x2, x3], Bd l
  prs : PrsAre kl r ps
  net : ∀ p ∈ ps, p ∈ net5
  fold : ps.foldl stepN (stepN [tr x0, tr x1, tr x2, tr x3] (i, j)) = target
theorem at4 {x0 x1 x2 x3 : Lamp} {i : Nat} (h : i < 4) : ∃ l, [x0, x1, x2, x3][i]? = some l := ⟨_, List.getElem?_eq_getElem (h := by exact h)⟩
theorem net4 {i j : Nat} (h : (i, j) ∈ net5) : i < 4 ∧ j < 4 := by
  revert h
  simp only [net5, List.mem_cons, Prod.mk.injEq, List.not_mem_nil, or_false]
  lia
theorem ref4 {x0 x1 x2 x3 l : Lamp} {i : Nat} {k : Int} {vs : List Value} (hvs : vs = [Value.ref x0.T, .ref x1.T, .ref x2.T, .ref x3.T]) (hk : k = i) (h4 : i < 4) (h : [x0, x1, x2, x3][i]? = some l) :
    vs[k.toNat]? = some (.ref l.T) ∧ (0 ≤ k ∧ k ≤ 8) ∧ k.toNat < vs.length := by
  have e : vs = [x0, x1, x2, x3].map (fun l => Value.ref l.T) := hvs
  refine ⟨?_, by lia, ?_⟩
  · rw [e, hk, Int.toNat_natCast, List.getElem?_map, h]; rfl
  · rw [hvs]; show k.toNat < 4; lia
theorem unJ.open {P : Addr} {cP : Nat} {L' I aC : Addr} {kst : List (Addr × Obj)} {target : List Tr} {a : Itm} {r : List Itm} {m : Str → Option Value} {n : List (Addr × Obj)} {v : Value} {g h : Heap} {L : Addr} {C : Prop}
    (hI : unJ P cP L' I aC kst target (a :: r) m n) (hv : a.Is v h) (F : Fr g L h m)
    (k : ∀ (R A1 A2 A3 e0 e1 e2 e3 : Addr) (t : Nat → Tok) (x0 x1 x2 x3 la lb : Lamp) (oO oN oL : Obj) (vO vN : Option Value) (kl : List (Addr × Obj)) (q : Addr) (i j : Nat) (ti tj : Tok) (ps : List (Nat × Nat)) (vs : List Value) (iI jI : Int),
      UnT kl kst target r R A1 A2 A3 e0 e1 e2 e3 t x0 x1 x2 x3 la lb vs iI jI i j ps → (q, tupOb #[.int iI ti, .int jI tj]) ∈ kl → lamE la ∈ kl → lamE lb ∈ kl → vs[iI.toNat]? = some (.ref la.T) → vs[jI.toNat]? = some (.ref lb.T) →
      0 ≤ iI ∧ iI ≤ 8 → 0 ≤ jI ∧ jI ≤ 8 → iI.toNat < vs.length → jI.toNat < vs.length → (∀ q, q ∈ (P, W.listOf vs.toArray cP) :: (L' + 1 + 1 + 1, oO) :: (L' + 1 + 1, oN) :: (L' + 1, oL) :: kl → q ∈ n) →
      oO.data = Data.cell vO → oN.data = Data.cell vN → oL.data = Data.cell (some (.ref P)) → (∀ q ∈ kl, q.1 ≠ P) → (∀ q ∈ kl, q.1 ≠ L' + 1) → (∀ q ∈ kl, q.1 ≠ L' + 1 + 1) → (∀ q ∈ kl, q.1 ≠ L' + 1 + 1 + 1) → (∀ q ∈ kl, q.1 ≠ I) →
      Fr g L h (fun y => if y = Str.ofString "old" then some (.ref R) else if y = Str.ofString "chain" then some (.ref aC) else m y) → v = .ref q → C) : C := by
  obtain ⟨R, A1, A2, A3, e0, e1, e2, e3, t, x0, x1, x2, x3, oO, oN, oL, vO, vN, kl, ps, h1, h2, hn, dO, dN, dL, kP, k1, k2, k3, kI, hs, hl, hk, hb, hp, ht, hf⟩ := hI
  cases hp with
  | @cons q i j ti tj its ps' hm hp =>
    have hij : (i, j) ∈ net5 := ht _ (List.mem_cons_self ..)
    obtain ⟨la, ha⟩ := at4 (x0 := x0) (x1 := x1) (x2 := x2) (x3 := x3) (net4 hij).1
    obtain ⟨lb, hb'⟩ := at4 (x0 := x0) (x1 := x1) (x2 := x2) (x3 := x3) (net4 hij).2
    have ra := ref4 (x0 := x0) (x1 := x1) (x2 := x2) (x3 := x3) rfl rfl (net4 hij).1 ha
    have rb := ref4 (x0 := x0) (x1 := x1) (x2 := x2) (x3 := x3) rfl rfl (net4 hij).2 hb'
    exact k R A1 A2 A3 e0 e1 e2 e3 t x0 x1 x2 x3 la lb oO oN oL vO vN kl q i j ti tj ps' _ i j ⟨rfl, rfl, rfl, hij, ha, hb', hs, hl, hk, hb, hp, fun p hp => ht p (.tail _ hp), hf⟩ hm (hl la (List.mem_of_getElem? ha)) (hl lb (List.mem_of_getElem? hb')) ra.1 rb.1 ra.2.1 rb.2.1 ra.2.2 rb.2.2 hn dO dN dL kP k1 k2 k3 kI (kn h1 (kn h2 rfl) ▸ F) hv
/-- the two new lamps in the list -/
structure UnM (kl : List (Addr × Obj)) (x0 x1 x2 x3 y0 y1 y2 y3 la' lb' : Lamp) (i j : Nat) : Prop where
  lam : ∀ y ∈ [y0, y1, y2, y3], y = la' ∨ y = lb' ∨ lamE y ∈ kl
  bd : ∀ l ∈ [y0, y1, y2, y3], Bd l
  out : MeetOut x0 x1 x2 x3 y0 y1 y2 y3
  st : stepN [tr x0, tr x1, tr x2, tr x3] (i, j) = [tr y0, tr y1, tr y2, tr y3]
theorem UnT.meet {kl kst : List (Addr × Obj)} {target : List Tr} {r : List Itm} {R A1 A2 A3 e0 e1 e2 e3 : Addr} {t : Nat → Tok} {x0 x1 x2 x3 la lb : Lamp} {vs : List Value} {iI jI : Int} {i j : Nat} {ps : List (Nat × Nat)} {C : Prop}
    (T : UnT kl kst target r R A1 A2 A3 e0 e1 e2 e3 t x0 x1 x2 x3 la lb vs iI jI i j ps) {T1 T2 : Addr} {a0 a1 a2 b0 b1 b2 : Tok}
    (k : ∀ (y0 y1 y2 y3 la' lb' : Lamp), la'.T = T1 → lb'.T = T2 → (T1, tupOb #[.int (min la.r lb.r) a0, .int (min la.g lb.g) a1, .int (min la.b lb.b) a2]) = lamE la' → (T2, tupOb #[.int (max la.r lb.r) b0, .int (max la.g lb.g) b1, .int (max la.b lb.b) b2]) = lamE lb' →
      (vs.set iI.toNat (.ref T1)).set jI.toNat (.ref T2) = [Value.ref y0.T, .ref y1.T, .ref y2.T, .ref y3.T] → UnM kl x0 x1 x2 x3 y0 y1 y2 y3 la' lb' i j → C) : C := by
  obtain ⟨y0, y1, y2, y3, ev, hy, hst, hBy, MO⟩ := meet4 (a' := ⟨T1, min la.r lb.r, min la.g lb.g, min la.b lb.b, a0, a1, a2⟩) (b' := ⟨T2, max la.r lb.r, max la.g lb.g, max la.b lb.b, b0, b1, b2⟩) T.hij T.hla T.hlb ⟨rfl, rfl⟩ T.bd
  refine k y0 y1 y2 y3 ⟨T1, min la.r lb.r, min la.g lb.g, min la.b lb.b, a0, a1, a2⟩ ⟨T2, max la.r lb.r, max la.g lb.g, max la.b lb.b, b0, b1, b2⟩ rfl rfl rfl rfl ?_ ⟨fun y h => ?_, hBy, MO, hst⟩
  · rw [← ev, T.hvs, T.hi, T.hj, Int.toNat_natCast, Int.toNat_natCast]
  · exact (hy y h).imp_right (Or.imp_right (T.lam y))
/-- a place of the old ledger keeps apart from what came in this turn -/
theorem un_off {S kl LL : List (Addr × Obj)} {T1 T2 b : Addr} {ob : Obj} {la lb : Lamp} (ap : ∀ p ∈ S, ∀ q ∈ LL, q.1 ≠ p.1) (hm : (b, ob) ∈ LL) (h1 : b < T1) (h2 : b < T2) (hk : ∀ q ∈ kl, q.1 ≠ b) (e1 : la.T = T1) (e2 : lb.T = T2) (q : Addr × Obj) (hq : q ∈ S ++ lamE la :: lamE lb :: kl) : q.1 ≠ b := by
  simp only [List.mem_append, List.mem_cons] at hq
  exact hq.elim (fun h => Ne.symm (ap q h _ hm)) fun h => h.elim (fun e => by rw [e]; show la.T ≠ b; rw [e1]; exact Nat.ne_of_gt h1) fun h => h.elim (fun e => by rw [e]; show lb.T ≠ b; rw [e2]; exact Nat.ne_of_gt h2) (hk q)
/-- the call of _law_seen: what comes back, its new objects under a name -/
theorem seenBack {g : Heap} {L : Addr} {m : Str → Option Value} {h : Heap} {need : List (Addr × Obj)} {p0 p1 p2 p3 : Lamp} {C : Value → Heap → Nat → Prop} (N : News g L h need)
    (k : ∀ (R A1 A2 A3 d0 d1 d2 d3 : Addr) (t : Nat → Tok) (S : List (Addr × Obj)) (h' : Heap) (tk' : Nat), S = seenNew R A1 A2 A3 d0 d1 d2 d3 t p0 p1 p2 p3 → Fr g L h' m → News g L h' (S ++ need) → (∀ p ∈ S, ∀ q ∈ need, q.1 ≠ p.1) → C (.ref R) h' tk')
    (v : Value) (new : List (Addr × Obj)) (h' : Heap) (tk' : Nat) (hP : ∃ R A1 A2 A3 d0 d1 d2 d3 t, v = .ref R ∧ new = seenNew R A1 A2 A3 d0 d1 d2 d3 t p0 p1 p2 p3) (b : BackK g L m h need new h') : C v h' tk' := by
  obtain ⟨R, A1, A2, A3, d0, d1, d2, d3, t, rfl, e⟩ := hP
  have u := BackK.use b N fun _ h => h
  exact k R A1 A2 A3 d0 d1 d2 d3 t new h' tk' e (BackK.fr b) u.1 u.2
end Mine
end
section
open PySem PySem.W PyProof.Rows PySem.Calls
set_option maxRecDepth 100000
namespace Mine
section
variable {prog : Program} {w : World} {A : Around} {E : Value → Shared → Prop} {s : Shared} {h₀ : Heap} {L l : Addr} {m : Str → Option Value} {env : Env} {news : List (Addr × Obj)}
open LCg in
/-- a comprehension by one lemma for a turn, with a growing ledger -/
theorem restI_inv {elt : Expr} {x : Str} {scope : Scope} {cl : List (Str × Addr)} {S : List (Addr × Obj) → Prop} {P : Nat → Value → Prop} {Fin : List Value → List (Addr × Obj) → Prop} {n : Nat} (Inv : Nat → List Value → List (Addr × Obj) → Prop)
    (turn : ∀ i v I oI C oC D m₂ ys news h tk (E' : Value → Shared → Prop), i < n → P i v → Inv i ys news → NsObj oC m₂ → m₂ x = some v → Fr h₀ L h m → News h₀ L h ((I, oI) :: (C, oC) :: (D, lst ys) :: news) → Off3 I C D news → ((@Ne Nat I C) ∧ (@Ne Nat I D) ∧ (@Ne Nat C D)) →
      wpAny (model prog w) A (eval elt (compEnvC scope cl C env)) (CompEnd h₀ L m { s with heap := h, toks := tk } I oI C oC D (lst ys) S (fun y news' => Inv (i + 1) (ys ++ [y]) news')) E' { s with heap := h, toks := tk })
    (fin : ∀ ys news, Inv n ys news → Fin ys news) (h0 : Inv 0 [] news) : CompRest prog w A h₀ L m env elt x scope cl s S P Fin n 0 [] news := by
  have key : ∀ (j i : Nat) (ys : List Value) (news : List (Addr × Obj)), i + j = n → Inv i ys news → CompRest prog w A h₀ L m env elt x scope cl s S P Fin j i ys news := by
    intro j
    induction j with
    | zero =>
      intro i ys news hi hy
      exact CompRest.zero (fin ys news ((show i = n from hi) ▸ hy))
    | succ j ih =>
      intro i ys news hi hy
      refine CompRest.succ ?_
      intro v I oI C oC D m₂ h tk E' hv hC hx F N off ne
      refine wpAny_mono (turn i v I oI C oC D m₂ ys news h tk E' (by lia) hv hy hC hx F N off ne) (fun y' s₃ h3 => ?_) fun _ _ e => e
      obtain ⟨h', tk', nw, e, F', N', off', hS, hn⟩ := h3
      exact ⟨h', tk', nw, e, F', N', off', hS, ih (i + 1) _ nw (by lia) hn⟩
  exact key n 0 [] news (Nat.zero_add n) h0
end
/-- the three lists of the two lamps' reds, greens, blues -/
noncomputable def PairsK (la lb : Lamp) (K : List (Addr × Obj)) : Nat → List Value → List (Addr × Obj) → Prop
  | 0, ys, n => [] = ys ∧ K = n
  | i + 1, ys, n => ∃ ys' n' S t u k, ys' ++ [.ref S] = ys ∧ (S, W.listOf [Value.int (min ([la.r, la.g, la.b].getD (0 + (i : Int)).toNat 0) ([lb.r, lb.g, lb.b].getD (0 + (i : Int)).toNat 0)) t, Value.int (max ([la.r, la.g, la.b].getD (0 + (i : Int)).toNat 0) ([lb.r, lb.g, lb.b].getD (0 + (i : Int)).toNat 0)) u].toArray k) :: n' = n ∧ AllLt S n' ∧ PairsK la lb K i ys' n'
abbrev mmO (x y : Int) (t u : Tok) (k : Nat) : Obj := W.listOf [Value.int (min x y) t, Value.int (max x y) u].toArray k
theorem PairsK.el {la lb : Lamp} {K : List (Addr × Obj)} {i : Nat} {ys : List Value} {n : List (Addr × Obj)} {C : List Value → List (Addr × Obj) → Prop} (h : PairsK la lb K (i + 1) ys n)
    (c : ∀ ys' n' S t u k, AllLt S n' → PairsK la lb K i ys' n' → C (ys' ++ [.ref S]) ((S, mmO ([la.r, la.g, la.b].getD (0 + (i : Int)).toNat 0) ([lb.r, lb.g, lb.b].getD (0 + (i : Int)).toNat 0) t u k) :: n')) : C ys n := by
  obtain ⟨ys', n', S, t, u, k, rfl, rfl, l, h⟩ := h
  exact c ys' n' S t u k l h
theorem PairsK.sub {la lb : Lamp} {K : List (Addr × Obj)} : ∀ {i : Nat} {ys : List Value} {n : List (Addr × Obj)}, PairsK la lb K i ys n → ∀ q ∈ K, q ∈ n
  | 0, _, _, h, q, hq => h.2 ▸ hq
  | _ + 1, _, n, h, q, hq => h.el (C := fun _ n => q ∈ n) fun _ _ _ _ _ _ _ h => .tail _ (PairsK.sub h q hq)
theorem part0 (i : Nat) : (0 : Int) ≤ 0 + i := by lia
theorem part1 {i : Nat} {a b c : Int} (h : i < 3) : (0 : Int) + i < ([a, b, c].length : Nat) := by show (0 : Int) + i < (3 : Nat); lia
theorem part2 {i : Nat} (h : i < 3) : (0 : Int) + i < 2 ^ 63 := by lia
theorem UnM.need {kl LL : List (Addr × Obj)} {x0 x1 x2 x3 y0 y1 y2 y3 la' lb' : Lamp} {i j : Nat} (M : UnM kl x0 x1 x2 x3 y0 y1 y2 y3 la' lb' i j) (h1 : lamE la' ∈ LL) (h2 : lamE lb' ∈ LL) (hk : ∀ q ∈ kl, q ∈ LL) (l : Lamp) (h : l ∈ [y0, y1, y2, y3]) : lamE l ∈ LL :=
  (M.lam l h).elim (fun e => e ▸ h1) fun h => h.elim (fun e => e ▸ h2) (hk _)
theorem bd8 {x0 x1 x2 x3 y0 y1 y2 y3 : Lamp} (h1 : ∀ l ∈ [x0, x1, x2, x3], Bd l) (h2 : ∀ l ∈ [y0, y1, y2, y3], Bd l) (l : Lamp) (h : l ∈ [x0, x1, x2, x3, y0, y1, y2, y3]) : (0 ≤ mx l ∧ mx l ≤ 60) ∧ (0 ≤ mn l ∧ mn l ≤ 60) :=
  Bd.mx ((List.mem_append (s := [x0, x1, x2, x3]) (t := [y0, y1, y2, y3])).mp h |>.elim (h1 l) (h2 l))
theorem UnT.meetN {kl kst : List (Addr × Obj)} {target : List Tr} {r : List Itm} {R A1 A2 A3 e0 e1 e2 e3 : Addr} {t : Nat → Tok} {x0 x1 x2 x3 la lb : Lamp} {vs : List Value} {iI jI : Int} {i j : Nat} {ps : List (Nat × Nat)} {C : Prop}
    (T : UnT kl kst target r R A1 A2 A3 e0 e1 e2 e3 t x0 x1 x2 x3 la lb vs iI jI i j ps) {g h : Heap} {L P T1 T2 : Addr} {cP : Nat} {K2 : List (Addr × Obj)} {a0 a1 a2 b0 b1 b2 : Tok}
    (N : News g L h ((T2, tupOb #[.int (max la.r lb.r) b0, .int (max la.g lb.g) b1, .int (max la.b lb.b) b2]) :: (T1, tupOb #[.int (min la.r lb.r) a0, .int (min la.g lb.g) a1, .int (min la.b lb.b) a2]) :: (P, W.listOf ((vs.set iI.toNat (.ref T1)).set jI.toNat (.ref T2)).toArray cP) :: K2))
    (k : ∀ (y0 y1 y2 y3 la' lb' : Lamp), la'.T = T1 → lb'.T = T2 → News g L h (lamE lb' :: lamE la' :: (P, W.listOf [Value.ref y0.T, .ref y1.T, .ref y2.T, .ref y3.T].toArray cP) :: K2) → UnM kl x0 x1 x2 x3 y0 y1 y2 y3 la' lb' i j → C) : C :=
  T.meet fun y0 y1 y2 y3 la' lb' e1 e2 e3 e4 ev M => k y0 y1 y2 y3 la' lb' e1 e2 (by rw [← e3, ← e4, ← ev]; exact N) M
/-- a call that answers True and makes nothing -/
theorem trueBack {g : Heap} {L : Addr} {m : Str → Option Value} {h : Heap} {need : List (Addr × Obj)} {C : Value → Heap → Nat → Prop} (N : News g L h need)
    (k : ∀ (h' : Heap) (tk' : Nat), Fr g L h' m → News g L h' need → C (.bool true) h' tk')
    (v : Value) (new : List (Addr × Obj)) (h' : Heap) (tk' : Nat) (hP : v = .bool true ∧ new = []) (b : BackK g L m h need new h') : C v h' tk' := by
  obtain ⟨rfl, rfl⟩ := hP
  exact k h' tk' (BackK.fr b) (BackK.use b N fun _ h => h).1
theorem sub5 {α : Type} {d x i c e : α} {K : List α} (q : α) (h : q ∈ i :: c :: e :: d :: K) : q ∈ d :: x :: i :: c :: e :: K := by
  simp only [List.mem_cons] at h ⊢
  exact h.elim (fun h => .inr (.inr (.inl h))) fun h => h.elim (fun h => .inr (.inr (.inr (.inl h)))) fun h => h.elim (fun h => .inr (.inr (.inr (.inr (.inl h))))) fun h => h.elim .inl fun h => .inr (.inr (.inr (.inr (.inr h))))
theorem off1_mem {D : Addr} : ∀ {l : List (Addr × Obj)}, LCg.Off1 D l → ∀ q ∈ l, q.1 ≠ D
  | [], _, _, h => nomatch h
  | _ :: _, h, q, hq => (List.mem_cons.mp hq).elim (fun e => e ▸ h.1) (off1_mem h.2 q)
/-- the end of a turn: what stays is apart from the loop's own item -/
theorem off5 {P c3 c2 c1 I : Addr} {a b c d o : Obj} {K : List (Addr × Obj)} (h1 : P ≠ I) (h2 : c3 ≠ I) (h3 : c2 ≠ I) (h4 : c1 ≠ I) (h5 : ∀ q ∈ K, q.1 ≠ I) (p : Addr × Obj) (h : p ∈ (P, a) :: (c3, b) :: (c2, c) :: (c1, d) :: K) (q : Addr × Obj) (hq : q ∈ [(I, o)]) : p.1 ≠ q.1 := off4 h1 h2 h3 h4 h5 p h q hq
theorem PairsK.three {la lb : Lamp} {K : List (Addr × Obj)} {ys : List Value} {n : List (Addr × Obj)} {C : List Value → List (Addr × Obj) → Prop} (h : PairsK la lb K 3 ys n)
    (c : ∀ S0 S1 S2 t0 t1 t2 u0 u1 u2 k0 k1 k2, (∀ q ∈ K, q.1 < S0 ∧ q.1 < S1 ∧ q.1 < S2) → C [.ref S0, .ref S1, .ref S2] ((S2, mmO la.b lb.b t2 u2 k2) :: (S1, mmO la.g lb.g t1 u1 k1) :: (S0, mmO la.r lb.r t0 u0 k0) :: K)) : C ys n :=
  h.el fun ys2 n2 S2 t2 u2 k2 l2 h => h.el (C := fun y n => AllLt S2 n → C (y ++ [_]) (_ :: n)) (fun ys1 n1 S1 t1 u1 k1 l1 h l2 => h.el (C := fun y n => AllLt S1 n → AllLt S2 (_ :: n) → C (y ++ [_] ++ [_]) (_ :: _ :: n)) (fun ys0 n0 S0 t0 u0 k0 l0 h l1 l2 => by
    obtain ⟨rfl, rfl⟩ := h
    exact c S0 S1 S2 t0 t1 t2 u0 u1 u2 k0 k1 k2 fun q hq => ⟨AllLt.mem l0 q hq, AllLt.mem l1 q (.tail _ hq), AllLt.mem l2 q (.tail _ (.tail _ hq))⟩) l1 l2) l2
/-- the ledger behind the comprehension: the list of lamps in front, the rest under a name -/
theorem un_pack {g h : Heap} {L P I D c1 c2 c3 : Addr} {oP oI o1 o2 o3 : Obj} {kl K : List (Addr × Obj)} {la lb : Lamp} {ys : List Value} {news : List (Addr × Obj)} {C : Prop} (N : News g L h ((D, LCg.lst ys) :: news)) (hp : PairsK la lb K 3 ys news)
    (hK : ∀ q, q ∈ (I, oI) :: (P, oP) :: (c3, o3) :: (c2, o2) :: (c1, o1) :: kl → q ∈ K) (off : ∀ q ∈ news, q.1 ≠ D) (kP : ∀ q ∈ kl, q.1 ≠ P) (hI : I ≠ P) (h1 : c1 ≠ P) (h2 : c2 ≠ P) (h3 : c3 ≠ P)
    (k : ∀ (S0 S1 S2 : Addr) (t0 t1 t2 u0 u1 u2 : Tok) (k0 k1 k2 : Nat) (K2 : List (Addr × Obj)), News g L h ((P, oP) :: K2) → (∀ q ∈ K2, q.1 ≠ P) → (D, LCg.lst [.ref S0, .ref S1, .ref S2]) ∈ K2 →
      (S0, mmO la.r lb.r t0 u0 k0) ∈ K2 → (S1, mmO la.g lb.g t1 u1 k1) ∈ K2 → (S2, mmO la.b lb.b t2 u2 k2) ∈ K2 →
      (I, oI) ∈ K2 → (c3, o3) ∈ K2 → (c2, o2) ∈ K2 → (c1, o1) ∈ K2 → (∀ q ∈ kl, q ∈ K2) → C) : C := by
  revert N off
  refine hp.three (C := fun ys n => News g L h ((D, LCg.lst ys) :: n) → (∀ q ∈ n, q.1 ≠ D) → C) fun S0 S1 S2 t0 t1 t2 u0 u1 u2 k0 k1 k2 hlt N off => ?_
  have hPK : (P, oP) ∈ K := hK _ (.tail _ (.head _))
  have hlP := hlt _ hPK
  refine k S0 S1 S2 t0 t1 t2 u0 u1 u2 k0 k1 k2 ((D, LCg.lst [.ref S0, .ref S1, .ref S2]) :: (S2, mmO la.b lb.b t2 u2 k2) :: (S1, mmO la.g lb.g t1 u1 k1) :: (S0, mmO la.r lb.r t0 u0 k0) :: (I, oI) :: (c3, o3) :: (c2, o2) :: (c1, o1) :: kl) (News.less N ?_) ?_ (.head _) (.tail _ (.tail _ (.tail _ (.head _)))) (.tail _ (.tail _ (.head _))) (.tail _ (.head _))
    (.tail _ (.tail _ (.tail _ (.tail _ (.head _))))) (.tail _ (.tail _ (.tail _ (.tail _ (.tail _ (.head _)))))) (.tail _ (.tail _ (.tail _ (.tail _ (.tail _ (.tail _ (.head _))))))) (.tail _ (.tail _ (.tail _ (.tail _ (.tail _ (.tail _ (.tail _ (.head _))))))))
    (fun q hq => .tail _ (.tail _ (.tail _ (.tail _ (.tail _ (.tail _ (.tail _ (.tail _ hq))))))))
  · intro q hq
    simp only [List.mem_cons] at hq ⊢ hK
    rcases hq with h | h | h | h | h | h | h | h | h | h
    · exact .inr (.inr (.inr (.inr (h ▸ hPK))))
    · exact .inl h
    · exact .inr (.inl h)
    · exact .inr (.inr (.inl h))
    · exact .inr (.inr (.inr (.inl h)))
    · exact .inr (.inr (.inr (.inr (hK q (.inl h)))))
    · exact .inr (.inr (.inr (.inr (hK q (.inr (.inr (.inl h)))))))
    · exact .inr (.inr (.inr (.inr (hK q (.inr (.inr (.inr (.inl h))))))))
    · exact .inr (.inr (.inr (.inr (hK q (.inr (.inr (.inr (.inr (.inl h)))))))))
    · exact .inr (.inr (.inr (.inr (hK q (.inr (.inr (.inr (.inr (.inr h)))))))))
  · refine List.forall_mem_cons.mpr ⟨fun e => off _ (.tail _ (.tail _ (.tail _ hPK))) e.symm, List.forall_mem_cons.mpr ⟨Nat.ne_of_gt hlP.2.2, List.forall_mem_cons.mpr ⟨Nat.ne_of_gt hlP.2.1, List.forall_mem_cons.mpr ⟨Nat.ne_of_gt hlP.1, ?_⟩⟩⟩⟩
    exact List.forall_mem_cons.mpr ⟨hI, List.forall_mem_cons.mpr ⟨h3, List.forall_mem_cons.mpr ⟨h2, List.forall_mem_cons.mpr ⟨h1, kP⟩⟩⟩⟩
theorem l3n {L P : Nat} (h : L + 1 + 1 + 1 < P) : L < P ∧ L + 1 ≤ P ∧ L < L + 1 ∧ L + 1 + 1 ≤ P ∧ L < L + 1 + 1 ∧ L + 1 + 1 + 1 ≤ P ∧ L < L + 1 + 1 + 1 :=
  have a := Nat.lt_succ_self L
  have b := Nat.lt_succ_of_lt a
  have c := Nat.lt_succ_of_lt b
  ⟨Nat.lt_trans c h, Nat.le_of_lt (Nat.lt_trans (Nat.lt_succ_of_lt (Nat.lt_succ_self _)) h), a, Nat.le_of_lt (Nat.lt_trans (Nat.lt_succ_self _) h), b, Nat.le_of_lt h, c⟩
/-- the state ahead of the loop -/
theorem unJ.start {P : Addr} {cP : Nat} {L' I aC : Addr} {need : List (Addr × Obj)} {p0 p1 p2 p3 c0 c1 c2 c3 : Lamp} {m : Str → Option Value} {n K S : List (Addr × Obj)} {R A1 A2 A3 e0 e1 e2 e3 : Addr} {t : Nat → Tok} {oO oN oL : Obj} {vO vN : Option Value} {D0 D1 D2 D3 D4 D5 : Addr} {u0 u1 u2 u3 u4 u5 u6 u7 u8 u9 : Tok}
    (hS : S = seenNew R A1 A2 A3 e0 e1 e2 e3 t p0 p1 p2 p3) (h1 : m (Str.ofString "old") = some (.ref R)) (h2 : m (Str.ofString "chain") = some (.ref aC))
    (hn : ∀ q, q ∈ (D0, tupOb #[.ref D5, .ref D4, .ref D3, .ref D2, .ref D1]) :: (D1, tupOb #[.int 1 u8, .int 2 u9]) :: (D2, tupOb #[.int 1 u6, .int 3 u7]) :: (D3, tupOb #[.int 0 u4, .int 2 u5]) :: (D4, tupOb #[.int 2 u2, .int 3 u3]) :: (D5, tupOb #[.int 0 u0, .int 1 u1]) :: (S ++ K) → q ∈ n) (hK : ∀ q, q ∈ (P, W.listOf [Value.ref p0.T, .ref p1.T, .ref p2.T, .ref p3.T].toArray cP) :: (L' + 1 + 1 + 1, oO) :: (L' + 1 + 1, oN) :: (L' + 1, oL) :: need → q ∈ K)
    (ap : ∀ p ∈ S, ∀ q ∈ K, q.1 ≠ p.1) (hD : ∀ D ∈ [D0, D1, D2, D3, D4, D5], P < D) (hI : ∀ q ∈ n, q.1 < I) (hP : L' + 1 + 1 + 1 < P) (hl : ∀ q ∈ need, q.1 < L')
    (dO : oO.data = Data.cell vO) (dN : oN.data = Data.cell vN) (dL : oL.data = Data.cell (some (.ref P))) (mp : ∀ l ∈ [p0, p1, p2, p3], lamE l ∈ need) (hb : ∀ l ∈ [p0, p1, p2, p3], Bd l) (hN : net5.foldl stepN [tr p0, tr p1, tr p2, tr p3] = [tr c0, tr c1, tr c2, tr c3]) :
    unJ P cP L' I aC ((D0, tupOb #[.ref D5, .ref D4, .ref D3, .ref D2, .ref D1]) :: need) [tr c0, tr c1, tr c2, tr c3] [.val (.ref D5), .val (.ref D4), .val (.ref D3), .val (.ref D2), .val (.ref D1)] m n := by
  have hkl : ∀ q ∈ (D0, tupOb #[.ref D5, .ref D4, .ref D3, .ref D2, .ref D1]) :: (D1, tupOb #[.int 1 u8, .int 2 u9]) :: (D2, tupOb #[.int 1 u6, .int 3 u7]) :: (D3, tupOb #[.int 0 u4, .int 2 u5]) :: (D4, tupOb #[.int 2 u2, .int 3 u3]) :: (D5, tupOb #[.int 0 u0, .int 1 u1]) :: (S ++ need), q ∈ n := fun q hq => hn q (by
    simp only [List.mem_cons, List.mem_append] at hq ⊢ hK
    exact hq.imp_right (Or.imp_right (Or.imp_right (Or.imp_right (Or.imp_right (Or.imp_right (Or.imp_right fun h => hK q (.inr (.inr (.inr (.inr h)))))))))))
  have off : ∀ b ob, (b, ob) ∈ K → b ≤ P → L' < b → ∀ q ∈ (D0, tupOb #[.ref D5, .ref D4, .ref D3, .ref D2, .ref D1]) :: (D1, tupOb #[.int 1 u8, .int 2 u9]) :: (D2, tupOb #[.int 1 u6, .int 3 u7]) :: (D3, tupOb #[.int 0 u4, .int 2 u5]) :: (D4, tupOb #[.int 2 u2, .int 3 u3]) :: (D5, tupOb #[.int 0 u0, .int 1 u1]) :: (S ++ need), q.1 ≠ b := fun b ob hb hle hlt => by
    have d : ∀ D ∈ [D0, D1, D2, D3, D4, D5], D ≠ b := fun D h => Nat.ne_of_gt (Nat.lt_of_le_of_lt hle (hD D h))
    simp only [List.forall_mem_cons] at d ⊢
    refine ⟨d.1, d.2.1, d.2.2.1, d.2.2.2.1, d.2.2.2.2.1, d.2.2.2.2.2.1, fun q hq => ?_⟩
    exact (List.mem_append.mp hq).elim (fun h => (ap q h _ hb).symm) fun h => Nat.ne_of_lt (Nat.lt_trans (hl q h) hlt)
  refine ⟨R, A1, A2, A3, e0, e1, e2, e3, t, p0, p1, p2, p3, oO, oN, oL, vO, vN, _, net5, h1, h2, fun q hq => ?_, dO, dN, dL, off P _ (hK _ (.head _)) (Nat.le_refl _) (l3n hP).1, off _ _ (hK _ (.tail _ (.tail _ (.tail _ (.head _))))) (l3n hP).2.1 (l3n hP).2.2.1, off _ _ (hK _ (.tail _ (.tail _ (.head _)))) (l3n hP).2.2.2.1 (l3n hP).2.2.2.2.1, off _ _ (hK _ (.tail _ (.head _))) (l3n hP).2.2.2.2.2.1 (l3n hP).2.2.2.2.2.2, fun q hq => Nat.ne_of_lt (hI q (hkl q hq)), fun q hq => ?_, fun l h => ?_, fun q hq => ?_, hb, ?_, fun q hq => hq, hN⟩
  · have e : ∀ q ∈ K, q ∈ n := fun q hq => hn q (.tail _ (.tail _ (.tail _ (.tail _ (.tail _ (.tail _ (List.mem_append_right _ hq)))))))
    rcases List.mem_cons.mp hq with h | hq
    · exact e q (hK q (h ▸ .head _))
    rcases List.mem_cons.mp hq with h | hq
    · exact e q (hK q (h ▸ .tail _ (.head _)))
    rcases List.mem_cons.mp hq with h | hq
    · exact e q (hK q (h ▸ .tail _ (.tail _ (.head _))))
    rcases List.mem_cons.mp hq with h | hq
    · exact e q (hK q (h ▸ .tail _ (.tail _ (.tail _ (.head _)))))
    exact hkl q hq
  · exact .tail _ (.tail _ (.tail _ (.tail _ (.tail _ (.tail _ (List.mem_append_left _ (hS ▸ hq)))))))
  · exact .tail _ (.tail _ (.tail _ (.tail _ (.tail _ (.tail _ (List.mem_append_right _ (mp l h)))))))
  · exact (List.mem_cons.mp hq).elim (fun h => h ▸ .head _) fun h => .tail _ (.tail _ (.tail _ (.tail _ (.tail _ (.tail _ (List.mem_append_right _ h))))))
  · exact .cons (i := 0) (j := 1) (.tail _ (.tail _ (.tail _ (.tail _ (.tail _ (.head _)))))) (.cons (i := 2) (j := 3) (.tail _ (.tail _ (.tail _ (.tail _ (.head _))))) (.cons (i := 0) (j := 2) (.tail _ (.tail _ (.tail _ (.head _)))) (.cons (i := 1) (j := 3) (.tail _ (.tail _ (.head _))) (.cons (i := 1) (j := 2) (.tail _ (.head _)) .nil))))
/-- the state behind a turn -/
theorem unJ.next {P : Addr} {cP : Nat} {L' I aC : Addr} {kl kst S LL K2 : List (Addr × Obj)} {target : List Tr} {r : List Itm} {R A1 A2 A3 e0 e1 e2 e3 : Addr} {t : Nat → Tok} {x0 x1 x2 x3 la lb y0 y1 y2 y3 la' lb' : Lamp} {vs : List Value} {iI jI : Int} {i j : Nat} {ps : List (Nat × Nat)}
    {m : Str → Option Value} {R2 B1 B2 B3 f0 f1 f2 f3 : Addr} {u : Nat → Tok} {oI oP oO oN oL : Obj} {vO vN : Option Value}
    (T : UnT kl kst target r R A1 A2 A3 e0 e1 e2 e3 t x0 x1 x2 x3 la lb vs iI jI i j ps) (M : UnM kl x0 x1 x2 x3 y0 y1 y2 y3 la' lb' i j) (hS : S = seenNew R2 B1 B2 B3 f0 f1 f2 f3 u y0 y1 y2 y3) (h1 : m (Str.ofString "old") = some (.ref R2)) (h2 : m (Str.ofString "chain") = some (.ref aC))
    (dO : oO.data = Data.cell vO) (dN : oN.data = Data.cell vN) (dL : oL.data = Data.cell (some (.ref P))) (ap : ∀ p ∈ S, ∀ q ∈ LL, q.1 ≠ p.1)
    (hL2 : ∀ q ∈ (P, oP) :: K2, q ∈ LL) (lt : ∀ q ∈ (P, oP) :: K2, q.1 < la'.T ∧ q.1 < lb'.T) (mI : (I, oI) ∈ K2) (mO : (L' + 1 + 1 + 1, oO) ∈ K2) (mN : (L' + 1 + 1, oN) ∈ K2) (mL : (L' + 1, oL) ∈ K2)
    (kP : ∀ q ∈ kl, q.1 ≠ P) (k1 : ∀ q ∈ kl, q.1 ≠ L' + 1) (k2 : ∀ q ∈ kl, q.1 ≠ L' + 1 + 1) (k3 : ∀ q ∈ kl, q.1 ≠ L' + 1 + 1 + 1) (kI : ∀ q ∈ kl, q.1 ≠ I) :
    (∀ q ∈ S ++ lamE la' :: lamE lb' :: kl, q.1 ≠ I) ∧ unJ P cP L' I aC kst target r m ((P, W.listOf [Value.ref y0.T, .ref y1.T, .ref y2.T, .ref y3.T].toArray cP) :: (L' + 1 + 1 + 1, oO) :: (L' + 1 + 1, oN) :: (L' + 1, oL) :: (S ++ lamE la' :: lamE lb' :: kl)) := by
  have off : ∀ b o, (b, o) ∈ (P, oP) :: K2 → (∀ q ∈ kl, q.1 ≠ b) → ∀ q ∈ S ++ lamE la' :: lamE lb' :: kl, q.1 ≠ b := fun b o h hk => un_off ap (hL2 _ h) (lt _ h).1 (lt _ h).2 hk rfl rfl
  have oI := off I _ (.tail _ mI) kI
  refine ⟨oI, R2, B1, B2, B3, f0, f1, f2, f3, u, y0, y1, y2, y3, oO, oN, oL, vO, vN, _, ps, h1, h2, fun q hq => hq, dO, dN, dL, off P _ (.head _) kP, off _ _ (.tail _ mL) k1, off _ _ (.tail _ mN) k2, off _ _ (.tail _ mO) k3, oI, fun q hq => List.mem_append_left _ (hS ▸ hq), fun l h => ?_, fun q hq => List.mem_append_right _ (.tail _ (.tail _ (T.kst q hq))), M.bd, T.prs.more (fun q hq => List.mem_append_right _ (.tail _ (.tail _ hq))), T.net, ?_⟩
  · rcases M.lam l h with h | h | h
    · exact h ▸ List.mem_append_right _ (.head _)
    · exact h ▸ List.mem_append_right _ (.tail _ (.head _))
    · exact List.mem_append_right _ (.tail _ (.tail _ h))
  · have h := T.fold
    rw [M.st] at h
    exact h
theorem ltK {la' lb' : Lamp} {T1 T2 P : Addr} {oP : Obj} {K2 : List (Addr × Obj)} (e1 : la'.T = T1) (e2 : lb'.T = T2) (h1 : @LT.lt Nat _ P T1 ∧ AllLt T1 K2) (h2 : @LT.lt Nat _ T1 T2 ∧ @LT.lt Nat _ P T2 ∧ AllLt T2 K2) : ∀ q ∈ (P, oP) :: K2, q.1 < la'.T ∧ q.1 < lb'.T := by
  rw [e1, e2]
  exact List.forall_mem_cons.mpr ⟨⟨h1.1, h2.2.1⟩, fun q hq => ⟨AllLt.mem h1.2 q hq, AllLt.mem h2.2.2 q hq⟩⟩
/-- what stays behind a turn is in the ledger -/
theorem un_sub {P c3 c2 c1 : Addr} {oP o3 o2 o1 : Obj} {S LL K2 kl : List (Addr × Obj)} {a b : Addr × Obj} (hL2 : ∀ q ∈ (P, oP) :: K2, q ∈ LL) (m3 : (c3, o3) ∈ K2) (m2 : (c2, o2) ∈ K2) (m1 : (c1, o1) ∈ K2) (ha : a ∈ LL) (hb : b ∈ LL) (hk : ∀ q ∈ kl, q ∈ LL) (q : Addr × Obj) (h : q ∈ (P, oP) :: (c3, o3) :: (c2, o2) :: (c1, o1) :: (S ++ a :: b :: kl)) : q ∈ S ++ LL := by
  simp only [List.mem_cons, List.mem_append] at h ⊢
  exact h.elim (fun e => .inr (e ▸ hL2 _ (.head _))) fun h => h.elim (fun e => .inr (e ▸ hL2 _ (.tail _ m3))) fun h => h.elim (fun e => .inr (e ▸ hL2 _ (.tail _ m2))) fun h => h.elim (fun e => .inr (e ▸ hL2 _ (.tail _ m1))) fun h => h.imp_right fun h => h.elim (fun e => e ▸ ha) fun h => h.elim (fun e => e ▸ hb) (hk q)
/-- the state behind the loop -/
theorem unJ.fin {P : Addr} {cP : Nat} {L' I aC : Addr} {kst : List (Addr × Obj)} {target : List Tr} {m : Str → Option Value} {n : List (Addr × Obj)} {g h : Heap} {L : Addr} {C : Prop}
    (hI : unJ P cP L' I aC kst target [] m n) (F : Fr g L h m) (N : News g L h n)
    (k : ∀ (R A1 A2 A3 e0 e1 e2 e3 : Addr) (t : Nat → Tok) (x0 x1 x2 x3 : Lamp) (oL : Obj) (K : List (Addr × Obj)), News g L h K → (P, W.listOf [Value.ref x0.T, .ref x1.T, .ref x2.T, .ref x3.T].toArray cP) ∈ K → (L' + 1, oL) ∈ K → oL.data = Data.cell (some (.ref P)) →
      (∀ q ∈ seenNew R A1 A2 A3 e0 e1 e2 e3 t x0 x1 x2 x3, q ∈ K) → (∀ x ∈ [x0, x1, x2, x3], lamE x ∈ K) → (∀ q ∈ kst, q ∈ K) → (∀ l ∈ [x0, x1, x2, x3], Bd l) → [tr x0, tr x1, tr x2, tr x3] = target →
      Fr g L h (fun y => if y = Str.ofString "old" then some (.ref R) else if y = Str.ofString "chain" then some (.ref aC) else m y) → C) : C := by
  obtain ⟨R, A1, A2, A3, e0, e1, e2, e3, t, x0, x1, x2, x3, oO, oN, oL, vO, vN, kl, ps, h1, h2, hn, dO, dN, dL, kP, k1, k2, k3, kI, hs, hl, hk, hb, hp, ht, hf⟩ := hI
  have hps : ps = [] := by cases hp; rfl
  rw [hps] at hf
  exact k R A1 A2 A3 e0 e1 e2 e3 t x0 x1 x2 x3 oL _ (News.less N hn) (.head _) (.tail _ (.tail _ (.tail _ (.head _)))) dL (fun q hq => .tail _ (.tail _ (.tail _ (.tail _ (hs q hq))))) (fun q hq => .tail _ (.tail _ (.tail _ (.tail _ (hl q hq))))) (fun q hq => .tail _ (.tail _ (.tail _ (.tail _ (hk q hq))))) hb hf (kn h1 (kn h2 rfl) ▸ F)
/-- one tint of a seen palette, its place a name -/
theorem lum4 {R A1 A2 A3 e0 e1 e2 e3 : Addr} {t : Nat → Tok} {x0 x1 x2 x3 : Lamp} {K : List (Addr × Obj)} {i : Nat} {v : Value} {C : Prop} (hs : ∀ q ∈ seenNew R A1 A2 A3 e0 e1 e2 e3 t x0 x1 x2 x3, q ∈ K) (hv : [Value.ref e0, .ref e1, .ref e2, .ref e3][i]? = some v)
    (k : ∀ (e : Addr) (n : Int) (u : Tok) (y z : Value), v = .ref e → (e, tupOb #[.int n u, y, z]) ∈ K → [lum x0, lum x1, lum x2, lum x3].getD i 0 = n → C) : C := by
  match i, hv with
  | 0, hv => exact k e0 _ _ _ _ (Option.some.inj hv).symm (hs _ (.tail _ (.tail _ (.tail _ (.tail _ (.head _)))))) rfl
  | 1, hv => exact k e1 _ _ _ _ (Option.some.inj hv).symm (hs _ (.tail _ (.tail _ (.tail _ (.tail _ (.tail _ (.head _))))))) rfl
  | 2, hv => exact k e2 _ _ _ _ (Option.some.inj hv).symm (hs _ (.tail _ (.tail _ (.tail _ (.tail _ (.tail _ (.tail _ (.head _)))))))) rfl
  | 3, hv => exact k e3 _ _ _ _ (Option.some.inj hv).symm (hs _ (.tail _ (.tail _ (.tail _ (.tail _ (.tail _ (.tail _ (.tail _ (.head _))))))))) rfl
  | n + 4, hv => exact nomatch hv
end Mine
end
section
open PySem PySem.W PyProof.Rows PySem.Calls
set_option maxRecDepth 100000
set_option maxHeartbeats 0
set_option linter.unusedVariables false
namespace Mine
theorem f_b1 (w : World) (k : Nat) (t1 : Tok) : ClaimF w 20 80 60 [] [.str ⟨#[k]⟩ t1] (fun v new => v = .bool (b1S w.params k) ∧ new = []) := by
  unfold ClaimF
  k_fill
  intro mean mg mb dp un gd cn cs a ccd cl outer A₀ base h₀ L m s Q E Bz Fz Xz Nz Tz hk hd hu hr
  refine wpAny_call ?_
  k_dflt (refine' enterP ?k1 ?k2 ?k3 ?k4 ?k5 ?kA ?kF ?kK ?k6 ?k7 ?k8 ?k9 ?kB ?_ ?c2 ?c3 ?c4 ?c5; (case kA => exact rfl); (case kF => exact rfl); (case kK => assumption); (case k1 => k_asm); (case k2 => k_asm); (case k3 => k_asm); (case k4 => k_asm); (case k5 => k_asm); (case k6 => k_is); (case k7 => k_is); (case k8 => ktr_room); (case k9 => exact BindsTo.of_eq rfl); (case c5 => decide); (case kB => exact locs rfl); (case c2 => exact rfl); (case c3 => exact rfl); (case c4 => exact rfl); k_whole; intro gH L' h' tk' hg FG' F' N' B' X' T'; (try dsimp only); (try k_fold))
  (repeat' (first | (k_unfold; (try dsimp only)) | (k_end; wrow_close) | (with_reducible ((k_here; (with_reducible show wpAny _ _ (compareOp _ (Value.int _ _) (Value.ref 50)) _ _ _); (with_unfolding_all refine' in_b1 ?k1 ?k2 ?_); (case k1 => k_asm); (case k2 => k_asm); k_whole))) | walk1 | (dsimp only; walk1) | (leave1; walk_say "STEP leave1"; (try dsimp only)) | fail "no step"))
  all_goals first | (refine hr _ [] _ _ ⟨rfl, rfl⟩ (BackK.of hg (by assumption) (by assumption) (by assumption) (by assumption) (by intro p hp; exact nomatch hp) (by intro p hp; exact nomatch hp)))
end Mine
end
section
open PySem PySem.W PyProof.Rows PySem.Calls
set_option maxRecDepth 100000
set_option maxHeartbeats 0
set_option linter.unusedVariables false
namespace Mine
theorem f_b3s (w : World) (k : Nat) (t1 : Tok) (x : Str) (t : Tok) (hv : b3F k = some (.str x t)) : ClaimF w 20 80 106 [] [.str ⟨#[k]⟩ t1] (fun v new => v = .str x t ∧ new = []) := by
  unfold ClaimF
  k_fill
  intro mean mg mb dp un gd cn cs a ccd cl outer A₀ base h₀ L m s Q E Bz Fz Xz Nz Tz hk hd hu hr
  refine wpAny_call ?_
  k_dflt (refine' enterP ?k1 ?k2 ?k3 ?k4 ?k5 ?kA ?kF ?kK ?k6 ?k7 ?k8 ?k9 ?kB ?_ ?c2 ?c3 ?c4 ?c5; (case kA => exact rfl); (case kF => exact rfl); (case kK => assumption); (case k1 => k_asm); (case k2 => k_asm); (case k3 => k_asm); (case k4 => k_asm); (case k5 => k_asm); (case k6 => k_is); (case k7 => k_is); (case k8 => ktr_room); (case k9 => exact BindsTo.of_eq rfl); (case c5 => decide); (case kB => exact locs rfl); (case c2 => exact rfl); (case c3 => exact rfl); (case c4 => exact rfl); k_whole; intro gH L' h' tk' hg FG' F' N' B' X' T'; (try dsimp only); (try k_fold))
  (repeat' (first | (k_unfold; (try dsimp only)) | (k_end; wrow_close) | (with_reducible ((k_here; (with_reducible show wpAny _ _ (call (Value.builtin _) [Value.ref 61, Value.int _ _]) _ _ _); (with_unfolding_all refine' call_b3v ?k1 ?k2 ?k3 ?_); (case k1 => k_asm); (case k2 => k_asm); (case k3 => assumption); k_whole; (try dsimp only [Option.getD])))) | (with_reducible ((k_here; (with_reducible show wpAny _ _ (getMethod (Value.ref 61) _ _) _ _ _); (with_unfolding_all refine' get_b3_m ?k1 ?k2 ?_); (case k1 => k_asm); (case k2 => k_asm); k_whole))) | walk1 | (dsimp only; walk1) | (leave1; walk_say "STEP leave1"; (try dsimp only)) | fail "no step"))
  all_goals first | (refine hr _ [] _ _ ⟨rfl, rfl⟩ (BackK.of hg (by assumption) (by assumption) (by assumption) (by assumption) (by intro p hp; exact nomatch hp) (by intro p hp; exact nomatch hp)))

theorem f_b3n (w : World) (k c : Nat) (t1 : Tok) (hv : b3F k = none) (hc : Txt.lower ⟨#[k]⟩ = ⟨#[c]⟩) : ClaimF w 20 80 106 [] [.str ⟨#[k]⟩ t1] (fun v new => (∃ t, v = .str ⟨#[c]⟩ t) ∧ new = []) := by
  unfold ClaimF
  k_fill
  intro mean mg mb dp un gd cn cs a ccd cl outer A₀ base h₀ L m s Q E Bz Fz Xz Nz Tz hk hd hu hr
  refine wpAny_call ?_
  k_dflt (refine' enterP ?k1 ?k2 ?k3 ?k4 ?k5 ?kA ?kF ?kK ?k6 ?k7 ?k8 ?k9 ?kB ?_ ?c2 ?c3 ?c4 ?c5; (case kA => exact rfl); (case kF => exact rfl); (case kK => assumption); (case k1 => k_asm); (case k2 => k_asm); (case k3 => k_asm); (case k4 => k_asm); (case k5 => k_asm); (case k6 => k_is); (case k7 => k_is); (case k8 => ktr_room); (case k9 => exact BindsTo.of_eq rfl); (case c5 => decide); (case kB => exact locs rfl); (case c2 => exact rfl); (case c3 => exact rfl); (case c4 => exact rfl); k_whole; intro gH L' h' tk' hg FG' F' N' B' X' T'; (try dsimp only); (try k_fold))
  (repeat' (first | (k_unfold; (try dsimp only)) | (k_end; wrow_close) | ((k_here; (try dsimp only); (with_reducible show wpAny _ _ (call (Value.builtin "str.lower") [Value.str _ _]) _ _ _); (rename Txt.lower _ = _ => hlw'); (refine KXw.lower hlw' (by rw [hlw']; exact rfl) ?_); intro _ _; k_whole)) | (with_reducible ((k_here; (with_reducible show wpAny _ _ (call (Value.builtin _) [Value.ref 61, Value.int _ _]) _ _ _); (with_unfolding_all refine' call_b3v ?k1 ?k2 ?k3 ?_); (case k1 => k_asm); (case k2 => k_asm); (case k3 => assumption); k_whole; (try dsimp only [Option.getD])))) | (with_reducible ((k_here; (with_reducible show wpAny _ _ (getMethod (Value.ref 61) _ _) _ _ _); (with_unfolding_all refine' get_b3_m ?k1 ?k2 ?_); (case k1 => k_asm); (case k2 => k_asm); k_whole))) | walk1 | (dsimp only; walk1) | (leave1; walk_say "STEP leave1"; (try dsimp only)) | fail "no step"))
  all_goals first | (refine hr _ [] _ _ ⟨⟨_, rfl⟩, rfl⟩ (BackK.of hg (by assumption) (by assumption) (by assumption) (by assumption) (by intro p hp; exact nomatch hp) (by intro p hp; exact nomatch hp)))

end Mine
end
section
open PySem PySem.W PyProof.Rows PySem.Calls
set_option maxRecDepth 100000
set_option maxHeartbeats 0
set_option linter.unusedVariables false
namespace Mine
local macro_rules | `(tactic| kt_len) => `(tactic| (first | exact one_len _ | exact nil_len | exact pz_len _ _))
theorem tyM_st (a b c : Value) : (fun y : Str => if y = Str.ofString "text" then some c else if y = Str.ofString "rest" then some b else List.lookup y [(Str.ofString "number", a)]) = tyM a b c none none none := by
  funext y
  simp only [tyM, List.lookup]
  by_cases h1 : y = "number"
  · subst h1; with_unfolding_all rfl
  by_cases h2 : y = "rest"
  · subst h2; with_unfolding_all rfl
  by_cases h3 : y = "text"
  · subst h3; with_unfolding_all rfl
  have e1 : (y == Str.ofString "number") = false := by simpa using h1
  have e2 : ¬ y = Str.ofString "text" := h3
  have e3 : ¬ y = Str.ofString "rest" := h2
  rw [e1, if_neg e2, if_neg e3, if_neg h1, if_neg h2, if_neg h3]
  show (none : Option Value) = _
  split
  · rfl
  · split
    · rfl
    · split <;> rfl
theorem tyM_tn (a b c a' b' c' l' b2' s' : Value) (lo bo so : Option Value) : (fun y : Str => if y = Str.ofString "text" then some c' else if y = Str.ofString "base" then some b2' else if y = Str.ofString "number" then some a' else if y = Str.ofString "rest" then some b' else if y = Str.ofString "letter" then some l' else if y = Str.ofString "size" then some s' else tyM a b c lo bo so y) = tyM a' b' c' (some l') (some b2') (some s') := by
  funext y
  simp only [tyM]
  by_cases h1 : y = "number"
  · subst h1; with_unfolding_all rfl
  by_cases h2 : y = "rest"
  · subst h2; with_unfolding_all rfl
  by_cases h3 : y = "text"
  · subst h3; with_unfolding_all rfl
  by_cases h4 : y = "letter"
  · subst h4; with_unfolding_all rfl
  by_cases h5 : y = "base"
  · subst h5; with_unfolding_all rfl
  by_cases h6 : y = "size"
  · subst h6; with_unfolding_all rfl
  have g1 : ¬ y = Str.ofString "number" := h1
  have g2 : ¬ y = Str.ofString "rest" := h2
  have g3 : ¬ y = Str.ofString "text" := h3
  have g4 : ¬ y = Str.ofString "letter" := h4
  have g5 : ¬ y = Str.ofString "base" := h5
  have g6 : ¬ y = Str.ofString "size" := h6
  simp only [if_neg g1, if_neg g2, if_neg g3, if_neg g4, if_neg g5, if_neg g6]
noncomputable def tyB (N : Int) : Int := [97, 65, 119808, 119860, 120224, 120432].getD (N.fmod 6).toNat 0
/-- what the loop does, from the sizes to come -/
noncomputable def tyF : List Int → Str → Int → Str → Str → Prop
  | [], _, _, T, fin => T = fin
  | k :: r, R, N, T, fin => (0 < k ∧ k ≤ 4 ∧ 0 ≤ N ∧ N < 1000000) ∧ T.length ≤ 8 ∧ R.length ≤ 4 ∧ ∃ c R', (0 ≤ N.fmod k ∧ N.fmod k < R.length) ∧ Txt.item R (N.fmod k) = ⟨#[c]⟩ ∧ Txt.replace R ⟨#[c]⟩ (Str.ofString "") = R' ∧ 0 ≤ tyB (N.fdiv k) + (c : Int) - 97 ∧ tyB (N.fdiv k) + (c : Int) - 97 ≤ 1114111 ∧
      tyF r R' (N.fdiv k) (T ++ (⟨#[(tyB (N.fdiv k) + (c : Int) - 97).toNat]⟩ ++ Txt.mul ⟨#[8288]⟩ (((N.fdiv k).fmod 7).fdiv 6))) fin
noncomputable def tyI (p : Addr × Obj) (fin : Str) (its : List Itm) (m : Str → Option Value) (n : List (Addr × Obj)) : Prop :=
  p ∈ n ∧ ∃ ks N R T t1 t2 t3 lo bo so, IntItems its ks ∧ tyF ks R N T fin ∧ m = tyM (.int N t1) (.str R t2) (.str T t3) lo bo so
theorem f_typed (w : World) (n : Int) (t1 : Tok) (fin : Str) (hf : tyF [4, 3, 2, 1] (Str.ofString "abcd") n (Str.ofString "") fin) : ClaimF w 20 80 135 [] [.int n t1] (fun v new => ∃ t, v = .str fin t ∧ new = []) := by
  unfold ClaimF
  k_fill
  intro mean mg mb dp un gd cn cs a ccd cl outer A₀ base h₀ L m s Q E Bz Fz Xz Nz Tz hk hd hu hr
  refine wpAny_call ?_
  k_dflt (refine' enterP ?k1 ?k2 ?k3 ?k4 ?k5 ?kA ?kF ?kK ?k6 ?k7 ?k8 ?k9 ?kB ?_ ?c2 ?c3 ?c4 ?c5; (case kA => exact rfl); (case kF => exact rfl); (case kK => assumption); (case k1 => k_asm); (case k2 => k_asm); (case k3 => k_asm); (case k4 => k_asm); (case k5 => k_asm); (case k6 => k_is); (case k7 => k_is); (case k8 => ktr_room); (case k9 => exact BindsTo.of_eq rfl); (case c5 => decide); (case kB => exact locs rfl); (case c2 => exact rfl); (case c3 => exact rfl); (case c4 => exact rfl); k_whole; intro gH L' h' tk' hg FG' F' N' B' X' T'; (try dsimp only); (try k_fold))
  (repeat' (first | (k_unfold; (try dsimp only)) | ((with_reducible show ItemsRest _ _ _ _ _ _ _ _ _ _ _ _ _ _ _); with_reducible ((refine Stop.mk ?_))) | walk1 | (dsimp only; walk1) | (leave1; walk_say "STEP leave1"; (try dsimp only)) | fail "no step"))
  unfold Stop
  rename_i i' l1' l2' l3'
  refine items_inv (keep := [?kkp]) (tyI ?kkp fin) ?turn ?kfin _ _ _ ?st
  case st =>
    refine' ⟨List.mem_singleton.mpr rfl, [4, 3, 2, 1], n, Str.ofString "abcd", Str.ofString "", ?ta, ?tb, ?tc, none, none, none, ⟨rfl, rfl, rfl, rfl, trivial⟩, hf, ?tm⟩
    case tm => with_unfolding_all exact tyM_st _ _ _
  all_goals clear i' l1'
  case turn =>
    rintro a r m n ⟨hp, ks, N, R, T, t1, t2, t3, lo, bo, so, hi, hf, rfl⟩ v h tk hv F
    obtain ⟨k, t, ks', rfl, rfl, hi'⟩ := hi.cons
    have hv' : v = .int k t := hv
    subst hv'
    obtain ⟨⟨hk0, hk4, hN0, hN6⟩, hT, hR, c, R', hi0, hit, hrep, hb0, hb1, hf'⟩ := hf
    simp only [tyB] at hb0 hb1
    refine AllObj.cons (fun o' hc' => ?_)
    refine AllObj.nil (fun N0 => ?_)
    dsimp only at hc'
    have N' : News gH L' h [(l2', o'), _] := News.less N0 (fun q hq => by
      rcases List.mem_cons.mp hq with rfl | hq
      · exact List.mem_cons_self ..
      · exact List.mem_cons_of_mem _ (List.mem_singleton.mp hq ▸ hp))
    clear N0 hp hv hi
    unfold tyM at F
    (repeat' (first | (k_unfold; (try dsimp only)) | ((with_reducible show wpAny _ _ (inplaceOp .FloorDiv (Value.int _ _) (Value.int _ _)) _ _ _); with_reducible ((refine ifloordiv_int (by lia) ?_))) | ((with_reducible show wpAny _ _ (inplaceOp .Add (Value.str _ _) (Value.str _ _)) _ _ _); with_reducible (((refine' iaddL ?kxaa ?kxab ?kxac ?_; (case kxaa => kt_len); (case kxab => kt_len); (case kxac => exact Nat.le_of_ble_eq_true rfl)); intro _ _))) | (with_reducible ((k_here; (with_reducible show wpAny _ _ (call (Value.builtin "chr") [Value.int _ _]) _ _ _); (refine' chr_of_range ?k1 ?k2 ?_); (case k1 => first | decide | assumption); (case k2 => first | decide | assumption); k_whole))) | (with_reducible ((k_here; (with_reducible show wpAny _ _ (subscriptTail _ _ (Value.ref _) (Value.int _ _)) _ _ _); (try k_fmods); (with_unfolding_all (refine' item_anyT ?k1 ?k2 ?k3 ?k4 ?k5 ?_; (case k1 => exact News.isTup (by k_asm) (by k_mem)); (case k2 => l_ints); (case k3 => l_idx); (case k4 => l_idx); (case k5 => l_idx); k_whole)); intro _))) | (with_reducible ((k_here; (with_reducible show wpAny _ _ (subscriptTail _ _ (Value.str _ _) (Value.int _ _)) _ _ _); (refine' item_strH ?k0 ?k1 ?k2 ?k3 ?k4 ?_); (case k0 => assumption); (case k1 => assumption); (case k2 => assumption); (case k3 => with_unfolding_all rfl); (case k4 => intro _; with_unfolding_all rfl); k_whole))) | (with_reducible ((k_here; (with_reducible show wpAny _ _ (call (Value.builtin "str.replace") [Value.str _ _, Value.str _ _, Value.str _ _]) _ _ _); (refine' replV ?k0 ?k1 ?k2 ?k3 ?k4 ?k5 ?_); (case k0 => assumption); (case k1 => assumption); (case k2 => exact Nat.succ_ne_zero _); (case k3 => exact Nat.succ_ne_zero _); (case k4 => exact Nat.ne_of_lt (by with_unfolding_all (show (_ : Nat) < _; lia))); (case k5 => exact one_ne _); intro _ _; k_whole))) | ((with_reducible show wpAny _ _ (execs [] _) _ _ _); with_reducible (refine wpAny_execs_nil ?_)) | walk1 | (dsimp only; walk1) | (leave1; walk_say "STEP leave1"; (try dsimp only)) | fail "no step"))
    refine' ⟨List.mem_cons_of_mem _ (List.mem_singleton.mpr rfl), ks', N.fdiv k, R', _, ?ua, ?ub, ?uc, ?ud, ?ue, ?uf, hi', hf', ?um⟩
    case um => with_unfolding_all exact tyM_tn _ _ _ _ _ _ _ _ _ _ _ _
  case kfin =>
    rintro m n ⟨hp, ks, N, R, T, t1, t2, t3, lo, bo, so, hi, hf, rfl⟩ h tk F N0
    cases hi.nil
    have hf' : T = fin := hf
    subst hf'
    have N' : News gH L' h [_] := News.less N0 (fun q hq => List.mem_singleton.mp hq ▸ hp)
    clear N0 hp hi
    unfold tyM at F
    (repeat' (first | (k_unfold; (try dsimp only)) | walk1 | (dsimp only; walk1) | (leave1; walk_say "STEP leave1"; (try dsimp only)) | fail "no step"))
    refine hr _ [] _ _ ⟨_, rfl, rfl⟩ (BackK.of hg (by assumption) (by assumption) (by assumption) (by assumption) (by intro p hp; exact nomatch hp) (by intro p hp; exact nomatch hp))
end Mine
end
section
open PySem PySem.W PyProof.Rows PySem.Calls
set_option maxRecDepth 100000
set_option maxHeartbeats 0
set_option linter.unusedVariables false
namespace Mine
theorem f_b1b (w : World) (k : Nat) (t1 : Tok) (b : Bool) (hb : b1S w.params k = b) : ClaimF w 20 80 60 [] [.str ⟨#[k]⟩ t1] (fun v new => v = .bool b ∧ new = []) := by
  subst hb
  exact f_b1 w k t1
noncomputable def B3 (k : Nat) (x : Str) : Prop := (∃ t, b3F k = some (.str x t)) ∨ (b3F k = none ∧ ∃ c, x = ⟨#[c]⟩ ∧ Txt.lower ⟨#[k]⟩ = ⟨#[c]⟩)
theorem f_b3 (w : World) (k : Nat) (t1 : Tok) (x : Str) (h : B3 k x) : ClaimF w 20 80 106 [] [.str ⟨#[k]⟩ t1] (fun v new => ∃ t, v = .str x t ∧ new = []) := by
  rcases h with ⟨t, h⟩ | ⟨h, c, rfl, hc⟩
  · intro mean mg mb dp un gd cn cs a ccd cl outer A₀ base h₀ L m s Q E Bz Fz Xz Nz Tz hk hd hu hr
    exact f_b3s w k t1 x t h dp un gd cn cs a ccd cl outer A₀ base h₀ L m s Q E Bz Fz Xz Nz Tz hk hd hu (fun v new h' tk' hP => hr v new h' tk' ⟨t, hP⟩)
  · intro mean mg mb dp un gd cn cs a ccd cl outer A₀ base h₀ L m s Q E Bz Fz Xz Nz Tz hk hd hu hr
    exact f_b3n w k c t1 h hc dp un gd cn cs a ccd cl outer A₀ base h₀ L m s Q E Bz Fz Xz Nz Tz hk hd hu (fun v new h' tk' hP => hr v new h' tk' (by obtain ⟨⟨t, e⟩, e2⟩ := hP; exact ⟨t, e, e2⟩))
theorem f_dealt (w : World) (aL : Addr) (cL : Nat) (lv : List Value) (ls : List Int) (n : Int) (t1 : Tok) (fin : Str) (g : Nat → Str) (hl : IntsAre lv ls) (hf : tyF [4, 3, 2, 1] (Str.ofString "abcd") n (Str.ofString "") fin) (hsg : ∀ k ∈ fin.cps.toList, b1S w.params k = false → B3 k (g k)) (hw : ∀ x ∈ (fin.cps.toList.filter fun k : Nat => !b1S w.params (k : Int)).map g, 0 ≤ Txt.find (Str.ofString "abcd") x ∧ Txt.find (Str.ofString "abcd") x < ls.length) (hz : fin.cps.size ≤ 8) (hz2 : ls.length ≤ 8) : ClaimF w 60 240 140 [(aL, W.listOf lv.toArray cL)] [.ref aL, .int n t1] (fun v new => ∃ D ys, v = .ref D ∧ new = [(D, LCg.lst ys)] ∧ IntsAre ys (((fin.cps.toList.filter fun k : Nat => !b1S w.params (k : Int)).map g).map fun x => ls.getD (Txt.find (Str.ofString "abcd") x).toNat 0)) := by
  unfold ClaimF
  k_fill
  intro mean mg mb dp un gd cn cs a ccd cl outer A₀ base h₀ L m s Q E Bz Fz Xz Nz Tz hk hd hu hr
  refine wpAny_call ?_
  k_dflt (refine' enterC ?k1 ?k2 ?k3 ?k4 ?k5 ?kA ?kF ?kK ?k6 ?k7 ?k8 ?k9 ?kB ?kD ?_ ?c2 ?c3 ?c4; (case kA => exact rfl); (case kF => exact rfl); (case kK => assumption); (case k1 => k_asm); (case k2 => k_asm); (case k3 => k_asm); (case k4 => k_asm); (case k5 => k_asm); (case k6 => k_is); (case k7 => k_is); (case k8 => ktr_room); (case k9 => exact BindsTo.of_eq rfl); (case kB => exact rfl); (case kD => decide +kernel); (case c2 => exact rfl); (case c3 => exact rfl); (case c4 => exact rfl); k_whole; intro gH L' h' tk' cells' hg FG' F' N' Y' B' X' T' l1; (try k_lt l1); k_cells Y'; (try simp only [List.cons_append, List.nil_append] at N'); (try dsimp only); (try k_fold))
  (repeat' (first | (k_unfold; (try dsimp only)) | ((with_reducible show SrcTxt _ _ _ _ _ _ _ _ _ _ _ _ _ _ _); with_reducible ((refine Stop.mk ?_))) | ((with_reducible show wpAny _ _ (exec (.Assign _ (.ListComp _ _ _ _) _) _) _ _ _); with_reducible ((k_here; k_dflt (refine assign_compTxt (by k_asm) (by rfl) (by with_unfolding_all rfl) (by with_unfolding_all rfl) (by decide) (by rfl) (by decide) (by rfl) (by rfl) (by rfl) ?_)))) | (with_reducible ((k_here; (with_reducible show wpAny _ _ (call (Value.ref 135) [Value.int _ _]) _ _ _); ((k_dflt (refine' f_typed _ _ _ _ ?p1 _ _ _ _ _ _ _ _ _ _ _ _ _ _ _ _ _ ?qB ?qF ?qX ?qN ?qT ?qK ?qD ?qU ?_)); (case p1 => assumption); (case qB => k_asm); (case qF => k_asm); (case qX => k_asm); (case qN => exact News.nil); (case qT => k_asm); (case qK => first | (k_dflt (exact rfl)) | assumption); (case qD => ktr_room); (case qU => ktr_units); k_whole; intro v' new' h' tk' hP' bk'; (obtain ⟨z0', e1', e2'⟩ := hP'); subst e1' e2'; (have uu' := BackK.use bk' (by with_reducible assumption) (List.forall_mem_nil _)); (have F' := BackK.fr bk'); clear bk'; (obtain ⟨N', ap'⟩ := uu'); clear ap'; (simp only [List.cons_append, List.nil_append] at N'); (revert h' tk' z0' F' N'; intro _ _ _ _ _); (try dsimp only); (try k_sweep); (try k_fold))))) | walk1 | (dsimp only; walk1) | (leave1; walk_say "STEP leave1"; (try dsimp only)) | fail "no step"))
  unfold Stop
  refine ⟨fin, _, _, rfl, rfl, by k_asm, by k_asm, (by rw [sizeLine_eq]; lia), fun g' => ?_⟩
  refine restT_txt (fun k : Nat => !b1S w.params (k : Int)) g (fun k' t' I' oI' C' oC' D' m' ys' h' tk' E' hkm hC' hx' F' N' off' ne' => ?_) ?_
  · simp only [LCg.Off3, and_true] at off'
    cases hb9 : b1S w.params (k' : Int)
    · have h3 := hsg _ hkm hb9
      (repeat' (first | (k_unfold; (try dsimp only)) | (with_reducible ((k_here; (with_reducible show wpAny _ _ (call (Value.ref 106) [Value.str _ _]) _ _ _); ((k_dflt (refine' f_b3 _ _ _ _ ?p1 _ _ _ _ _ _ _ _ _ _ _ _ _ _ _ _ _ ?qB ?qF ?qX ?qN ?qT ?qK ?qD ?qU ?_)); (case p1 => assumption); (case qB => k_asm); (case qF => k_asm); (case qX => k_asm); (case qN => exact News.nil); (case qT => k_asm); (case qK => first | (k_dflt (exact rfl)) | assumption); (case qD => ktr_room); (case qU => ktr_units); k_whole; intro v' new' h' tk' hP' bk'; (obtain ⟨z0', e1', e2'⟩ := hP'); subst e1' e2'; (have uu' := BackK.use bk' (by with_reducible assumption) (List.forall_mem_nil _)); (have F' := BackK.fr bk'); clear bk'; (obtain ⟨N', ap'⟩ := uu'); clear ap'; (simp only [List.cons_append, List.nil_append] at N'); (revert h' tk' z0' F' N'; intro _ _ _ _ _); (try dsimp only); (try k_sweep); (try k_fold))))) | (with_reducible ((k_here; (with_reducible show wpAny _ _ (call (Value.ref 60) [Value.str _ _]) _ _ _); ((k_dflt (refine' f_b1b _ _ _ _ ?p1 _ _ _ _ _ _ _ _ _ _ _ _ _ _ _ _ _ ?qB ?qF ?qX ?qN ?qT ?qK ?qD ?qU ?_)); (case p1 => assumption); (case qB => k_asm); (case qF => k_asm); (case qX => k_asm); (case qN => exact News.nil); (case qT => k_asm); (case qK => first | (k_dflt (exact rfl)) | assumption); (case qD => ktr_room); (case qU => ktr_units); k_whole; intro v' new' h' tk' hP' bk'; (obtain ⟨e1', e2'⟩ := hP'); subst e1' e2'; (have uu' := BackK.use bk' (by with_reducible assumption) (List.forall_mem_nil _)); (have F' := BackK.fr bk'); clear bk'; (obtain ⟨N', ap'⟩ := uu'); clear ap'; (simp only [List.cons_append, List.nil_append] at N'); (revert h' tk' F' N'; intro _ _ _ _); (try dsimp only); (try k_sweep); (try k_fold))))) | walk1 | (dsimp only; walk1) | (leave1; walk_say "STEP leave1"; (try dsimp only)) | fail "no step"))
    · (repeat' (first | (k_unfold; (try dsimp only)) | (with_reducible ((k_here; (with_reducible show wpAny _ _ (call (Value.ref 60) [Value.str _ _]) _ _ _); ((k_dflt (refine' f_b1b _ _ _ _ ?p1 _ _ _ _ _ _ _ _ _ _ _ _ _ _ _ _ _ ?qB ?qF ?qX ?qN ?qT ?qK ?qD ?qU ?_)); (case p1 => assumption); (case qB => k_asm); (case qF => k_asm); (case qX => k_asm); (case qN => exact News.nil); (case qT => k_asm); (case qK => first | (k_dflt (exact rfl)) | assumption); (case qD => ktr_room); (case qU => ktr_units); k_whole; intro v' new' h' tk' hP' bk'; (obtain ⟨e1', e2'⟩ := hP'); subst e1' e2'; (have uu' := BackK.use bk' (by with_reducible assumption) (List.forall_mem_nil _)); (have F' := BackK.fr bk'); clear bk'; (obtain ⟨N', ap'⟩ := uu'); clear ap'; (simp only [List.cons_append, List.nil_append] at N'); (revert h' tk' F' N'; intro _ _ _ _); (try dsimp only); (try k_sweep); (try k_fold))))) | walk1 | (dsimp only; walk1) | (leave1; walk_say "STEP leave1"; (try dsimp only)) | fail "no step"))
  · intro ys hys
    unfold LCg.FinA
    intro D h tk F N off
    simp only [LCg.Off1, and_true] at off
    (repeat' (first | (k_unfold; (try dsimp only)) | ((with_reducible show LCg.CompSrc _ _ _ _ _ _ _ _ _ _ _ _ _ _); with_reducible ((refine Stop.mk ?_))) | ((with_reducible show wpAny _ _ (eval (.ListComp _ _ _ _) _) _ _ _); with_reducible ((k_here; k_dflt (refine LCg.ListComp_U (F₀ := by k_asm) (by with_unfolding_all rfl) (by decide) (by rfl) (by decide) (by rfl) ?_)))) | walk1 | (dsimp only; walk1) | (leave1; walk_say "STEP leave1"; (try dsimp only)) | fail "no step"))
    unfold Stop
    have hlen : ys.length = ((fin.cps.toList.filter fun k : Nat => !b1S w.params (k : Int)).map g).length := hys.length
    have hlen2 : ys.length ≤ 8 := by
      rw [hlen, List.length_map]
      exact Nat.le_trans (List.length_filter_le _ _) (by rw [Array.length_toList]; exact hz)
    refine LCg.CompSrc.ledger (its := ys.toArray) rfl (by k_asm) (by k_asm) (by k_mem) (by rw [sizeLine_eq, List.size_toArray]; lia) ?_
    intro g'
    refine restU_inv (fun i y => ∃ t, y = .int ((((fin.cps.toList.filter fun k : Nat => !b1S w.params (k : Int)).map g).map fun x => ls.getD (Txt.find (Str.ofString "abcd") x).toNat 0).getD i 0) t) (fun i' v' I' oI' C' oC' D' m' ys' h' tk' E' hi' hv' hC' hx' F' N' off' ne' => ?_) ?_
    · obtain ⟨x, t, rfl, hxs⟩ := hys.item i' v' (by simpa using hv')
      obtain ⟨hx0, hx1⟩ := hw x (List.mem_of_getElem? hxs)
      have hrs : (((fin.cps.toList.filter fun k : Nat => !b1S w.params (k : Int)).map g).map fun x => ls.getD (Txt.find (Str.ofString "abcd") x).toNat 0).getD i' 0 = ls.getD (Txt.find (Str.ofString "abcd") x).toNat 0 := by
        rw [List.getD_eq_getElem?_getD, List.getElem?_map, hxs]
        rfl
      rw [hrs]
      simp only [LCg.Off3, and_true] at off'
      generalize hj : Txt.find (Str.ofString "abcd") x = j at hx0 hx1
      clear hi' hv' hys hlen hsg hw hf hrs
      (repeat' (first | (k_unfold; (try dsimp only)) | (with_reducible ((k_here; (with_reducible show wpAny _ _ (subscriptTail _ _ (Value.ref _) (Value.int _ _)) _ _ _); (with_unfolding_all refine' item_anyK ?k1 ?k2 ?k3 ?k4 ?k5 ?_ ?k6; (case k1 => exact News.isList (by k_asm) (by k_mem)); (case k2 => assumption); (case k3 => assumption); (case k4 => assumption); (case k5 => lia); (case k6 => with_unfolding_all rfl); k_whole); intro _))) | ((k_here; (with_reducible show wpAny _ _ (call (Value.builtin "str.index") [Value.str _ _, Value.str _ _]) _ _ _); (refine' indexV ?k0 ?k1 ?k2 ?_); (case k0 => rfl); (case k1 => assumption); (case k2 => assumption); k_whole)) | walk1 | (dsimp only; walk1) | (leave1; walk_say "STEP leave1"; (try dsimp only)) | fail "no step"))
    · intro zs hzl hzr
      unfold LCg.FinE
      intro D2 h2 tk2 F2 N2 off2
      simp only [LCg.Off1, and_true] at off2
      have hints := ints_of_rel (by rw [hzl, List.size_toArray, hlen, List.length_map, List.length_map, List.length_map]) hzr
      clear hys hlen hsg hw hf hzr
      (repeat' (first | (k_unfold; (try dsimp only)) | walk1 | (dsimp only; walk1) | (leave1; walk_say "STEP leave1"; (try dsimp only)) | fail "no step"))
      refine hr _ [(_, _)] _ _ ⟨_, zs, rfl, rfl, hints⟩ (BackK.of hg (by assumption) (by assumption) (by assumption) (by assumption) ?_ ?_)
      · intro p hp
        rcases List.mem_append.mp hp with hp | hp
        · exact List.mem_singleton.mp hp ▸ List.mem_cons_self ..
        · rw [List.mem_singleton.mp hp]
          k_mem
      · intro p hp q hq
        rw [List.mem_singleton.mp hp, List.mem_singleton.mp hq]
        exact off2.2.2
end Mine
end
section
open PySem PySem.W PyProof.Rows PySem.Calls
set_option maxRecDepth 100000
set_option maxHeartbeats 0
set_option linter.unusedVariables false
namespace Mine
theorem intV {a b : Int} {t : Tok} (h : a = b) : Value.int a t = Value.int b t := h ▸ rfl
noncomputable def dues : List Int := [50747, 6129, 154889, 271, 494]
noncomputable def dueV (t : Tok) (t' : Tok) (t2 : Tok) (t3 : Tok) (t4 : Tok) : List Value := [.int 50747 t, .int 6129 t', .int 154889 t2, .int 271 t3, .int 494 t4]
noncomputable def drawsF (ns : List Int) : List Int := (List.range 5).map fun i => if i < ns.length then (ns.getD i 0).fmod 1000000 else dues.getD i 0
theorem f_draws (w : World) (aS aD : Addr) (vs : List Value) (t0 t1 t2 t3 t4 : Tok) (ns : List Int) (hi : IntsAre vs ns) (hn : ns.length ≤ 63) : ClaimB (fun h => h.IsList aS vs.toArray) w 60 240 111 [(aD, tupOb #[.int 50747 t0, .int 6129 t1, .int 154889 t2, .int 271 t3, .int 494 t4])] [.ref aS, .ref aD] (fun v new => ∃ D ys, v = .ref D ∧ new = [(D, LCg.lst ys)] ∧ IntsAre ys (drawsF ns)) := by
  unfold ClaimB
  k_fill
  intro mean mg mb dp un gd cn cs a ccd cl outer A₀ base h₀ L m s Q E Hz Bz Fz Xz Nz Tz hk hd hu hr
  refine wpAny_call ?_
  k_dflt (refine' enterC ?k1 ?k2 ?k3 ?k4 ?k5 ?kA ?kF ?kK ?k6 ?k7 ?k8 ?k9 ?kB ?kD ?_ ?c2 ?c3 ?c4; (case kA => exact rfl); (case kF => exact rfl); (case kK => assumption); (case k1 => k_asm); (case k2 => k_asm); (case k3 => k_asm); (case k4 => k_asm); (case k5 => k_asm); (case k6 => k_is); (case k7 => k_is); (case k8 => ktr_room); (case k9 => exact BindsTo.of_eq rfl); (case kB => exact rfl); (case kD => decide +kernel); (case c2 => exact rfl); (case c3 => exact rfl); (case c4 => exact rfl); k_whole; intro gH L' h' tk' cells' hg FG' F' N' Y' B' X' T' l1; (try k_lt l1); k_cells Y'; (try simp only [List.cons_append, List.nil_append] at N'); (try dsimp only); (try k_fold))
  have Hg : gH.IsList aS vs.toArray := Hz.at fun o e => FG'.keep _ _ e
  (repeat' (first | (k_unfold; (try dsimp only)) | ((with_reducible show LCg.CompSrc _ _ _ _ _ _ _ _ _ _ _ _ _ _); with_reducible ((refine Stop.mk ?_))) | ((with_reducible show wpAny _ _ (eval (.ListComp _ _ _ _) _) _ _ _); with_reducible ((k_here; k_dflt (refine LCg.ListComp_U (F₀ := by k_asm) (by with_unfolding_all rfl) (by decide) (by rfl) (by decide) (by rfl) ?_)))) | walk1 | (dsimp only; walk1) | (leave1; walk_say "STEP leave1"; (try dsimp only)) | fail "no step"))
  unfold Stop
  refine LCg.CompSrc.range rfl (by k_asm) (by k_asm) (by assumption) (by first | decide | rfl) (by first | rfl | decide) (by first | size_fits | exact Nat.le_of_ble_eq_true rfl) ?_
  intro g'
  refine restU_inv (n := 5) (fun i y => ∃ t, y = .int ((drawsF ns).getD i 0) t) (fun i' v' I' oI' C' oC' D' m' ys' h' tk' E' hi' hv' hC' hx' F' N' off' ne' => ?_) ?_
  · obtain ⟨t9, rfl⟩ := hv'
    have e9 : (drawsF ns).getD i' 0 = if i' < ns.length then (ns.getD i' 0).fmod 1000000 else dues.getD i' 0 := by
      unfold drawsF
      rw [List.getD_eq_getElem?_getD, List.getElem?_map, List.getElem?_range hi']
      rfl
    rw [e9]
    have ez : (0 + (i' : Int)).toNat = i' := by lia
    (repeat' (first | (k_unfold; (try dsimp only)) | ((with_reducible show LCg.CompEnd _ _ _ _ _ _ _ _ _ _ _ _ _ _); refine Stop.mk ?_) | (with_reducible ((k_here; (with_reducible show wpAny _ _ (subscriptTail _ _ (Value.ref _) (Value.int _ _)) _ _ _); (with_unfolding_all refine' item_anyK ?k1 ?k2 ?k3 ?k4 ?k5 ?_ ?k6; (case k1 => is_list); (case k2 => assumption); (case k3 => lia); (case k4 => lia); (case k5 => lia); (case k6 => with_unfolding_all rfl); k_whole); intro _))) | (with_reducible ((k_here; (with_reducible show wpAny _ _ (call (Value.builtin "len") [Value.ref _]) _ _ _); k_dflt (refine' kun_lenL ?k1 ?k2 ?k3 ?_; (case k1 => is_list); (case k2 => exact IntsAre.sizeZ (by assumption)); (case k3 => lia); k_whole)))) | walk1 | (dsimp only; walk1) | (leave1; walk_say "STEP leave1"; (try dsimp only)) | fail "no step"))
    · unfold Stop
      exact LCg.CompEnd.intro (by assumption) (by assumption) _ (fun p hp => hp) off' trivial ⟨rfl, _, congrArg (Value.int · _) (by rw [ez, if_pos (by lia)]; rfl)⟩
    · unfold Stop
      exact LCg.CompEnd.intro (by assumption) (by assumption) _ (fun p hp => hp) off' trivial ⟨rfl, _, congrArg (Value.int · _) (by rw [ez, if_neg (by lia)]; rfl)⟩
  · intro zs hzl hzr
    unfold LCg.FinE
    intro D2 h2 tk2 F2 N2 off2
    simp only [LCg.Off1, and_true] at off2
    have hints := ints_of_rel (ns := drawsF ns) (by rw [hzl]; unfold drawsF; simp) hzr
    (repeat' (first | (k_unfold; (try dsimp only)) | walk1 | (dsimp only; walk1) | (leave1; walk_say "STEP leave1"; (try dsimp only)) | fail "no step"))
    refine hr _ [(_, _)] _ _ ⟨_, zs, rfl, rfl, hints⟩ (BackK.of hg (by assumption) (by assumption) (by assumption) (by assumption) ?_ ?_)
    · intro p hp
      rcases List.mem_append.mp hp with hp | hp
      · exact List.mem_singleton.mp hp ▸ List.mem_cons_self ..
      · rw [List.mem_singleton.mp hp]
        k_mem
    · intro p hp q hq
      rw [List.mem_singleton.mp hp, List.mem_singleton.mp hq]
      first | exact off2.2.2 | exact off2.2 | exact off2.2.2.2 | k_ne
end Mine
end
section
open PySem PySem.W PyProof.Rows PySem.Calls
set_option maxRecDepth 100000
namespace Mine
noncomputable def lvS (n : Int) : List Int :=
  if (n.fdiv 50625).fmod 4 = 0 then [szv n 0, szv n 1, szv n 2, szv n 3] else if (n.fdiv 50625).fmod 4 = 1 then [szv n 0, szv n 1, szv n 1, szv n 1]
  else if (n.fdiv 50625).fmod 4 = 2 then [szv n 0, szv n 0, szv n 0, szv n 0] else [0, szv n 0, szv n 1, szv n 2]
theorem lvS0 {n : Int} (h : (n.fdiv 50625).fmod 4 = 0) : lvS n = [szv n 0, szv n 1, szv n 2, szv n 3] := by unfold lvS; rw [if_pos h]
theorem lvS1 {n : Int} (h : (n.fdiv 50625).fmod 4 = 1) : lvS n = [szv n 0, szv n 1, szv n 1, szv n 1] := by unfold lvS; rw [if_neg (by rw [h]; decide), if_pos h]
theorem lvS2 {n : Int} (h : (n.fdiv 50625).fmod 4 = 2) : lvS n = [szv n 0, szv n 0, szv n 0, szv n 0] := by unfold lvS; rw [if_neg (by rw [h]; decide), if_neg (by rw [h]; decide), if_pos h]
theorem lvS3 {n : Int} (h : (n.fdiv 50625).fmod 4 = 3) : lvS n = [0, szv n 0, szv n 1, szv n 2] := by unfold lvS; rw [if_neg (by rw [h]; decide), if_neg (by rw [h]; decide), if_neg (by rw [h]; decide)]
noncomputable def cums : List Int → List Int
  | [a, b, c, d] => [a, a + b, a + b + c, a + b + c + d]
  | _ => []
theorem four_of {x : Int} (h1 : 0 ≤ x) (h2 : x < 4) : x = 0 ∨ x = 1 ∨ x = 2 ∨ x = 3 := by lia
theorem nat4 {j : Nat} (h : j < 4) : -(2 ^ 63) ≤ (j : Int) ∧ (j : Int) < 2 ^ 63 ∧ (j : Int) < (4 : Nat) := by lia
theorem plus1 (i : Nat) : (0 : Int) ≤ 0 + i + 1 ∧ (i < 4 → (0 : Int) + i + 1 ≤ (4 : Nat)) := by constructor <;> lia
theorem fmod4 (k : Int) : k.fmod 4 = 0 ∨ k.fmod 4 = 1 ∨ k.fmod 4 = 2 ∨ k.fmod 4 = 3 := by
  have h1 := Int.fmod_nonneg_of_pos k (b := 4) (by decide)
  have h2 := Int.fmod_lt_of_pos k (b := 4) (by decide)
  exact four_of h1 h2
theorem lvS_len (n : Int) : ∃ a b c d, lvS n = [a, b, c, d] := by
  rcases fmod4 (n.fdiv 50625) with h | h | h | h
  · exact ⟨_, _, _, _, lvS0 h⟩
  · exact ⟨_, _, _, _, lvS1 h⟩
  · exact ⟨_, _, _, _, lvS2 h⟩
  · exact ⟨_, _, _, _, lvS3 h⟩
theorem cums_take {ns : List Int} (h : ∃ a b c d, ns = [a, b, c, d]) {i : Nat} (hi : i < 4) : (ns.take ((0 : Int) + i + 1).toNat).sum = (cums ns).getD i 0 := by
  obtain ⟨a, b, c, d, rfl⟩ := h
  match i, hi with
  | 0, _ => exact Int.add_zero a
  | 1, _ => show a + (b + 0) = a + b; rw [Int.add_zero]
  | 2, _ => show a + (b + (c + 0)) = a + b + c; rw [Int.add_zero, Int.add_assoc]
  | 3, _ => show a + (b + (c + (d + 0))) = a + b + c + d; rw [Int.add_zero, Int.add_assoc, Int.add_assoc]
theorem IntsAre.take' {vs : List Value} {ns : List Int} (h : IntsAre vs ns) : ∀ k, IntsAre (vs.take k) (ns.take k) := by
  induction h with
  | nil => intro k; rw [List.take_nil, List.take_nil]; exact .nil
  | cons n t h ih =>
    intro k
    cases k with
    | zero => exact .nil
    | succ k => exact .cons n t (ih k)
section
variable {prog : Program} {w : World} {A : Around} {E : Value → Shared → Prop} {s : Shared} {h₀ : Heap} {L t : Addr} {m : Str → Option Value} {news : List (Addr × Obj)}
/-- one of the four tuples, by the kind -/
theorem pickLv {value slice : PySem.Expr} {n : Int} {X T0 T1 T2 T3 : Addr} {a0 a1 a2 a3 b0 b1 b2 b3 c0 c1 c2 c3 d0 d1 d2 d3 u : Tok} {Q : Value → Shared → Prop} (N : News h₀ L s.heap news) (hX : (X, tupOb #[.ref T0, .ref T1, .ref T2, .ref T3]) ∈ news)
    (h0 : (T0, tupOb #[.int (szv n 0) a0, .int (szv n 1) a1, .int (szv n 2) a2, .int (szv n 3) a3]) ∈ news) (h1 : (T1, tupOb #[.int (szv n 0) b0, .int (szv n 1) b1, .int (szv n 1) b2, .int (szv n 1) b3]) ∈ news)
    (h2 : (T2, tupOb #[.int (szv n 0) c0, .int (szv n 0) c1, .int (szv n 0) c2, .int (szv n 0) c3]) ∈ news) (h3 : (T3, tupOb #[.int 0 d0, .int (szv n 0) d1, .int (szv n 1) d2, .int (szv n 2) d3]) ∈ news) {P : Addr → Prop} (p0 : P T0) (p1 : P T1) (p2 : P T2) (p3 : P T3)
    (k : ∀ T x0 x1 x2 x3, P T → (T, tupOb #[x0, x1, x2, x3]) ∈ news → IntsAre [x0, x1, x2, x3] (lvS n) → Q (.ref T) s)
    (hs : subscripted slice false (.ref X) (.int ((n.fdiv 50625).fmod 4) u) = operate [.ref X, .int ((n.fdiv 50625).fmod 4) u] (getItem (.ref X) (.int ((n.fdiv 50625).fmod 4) u))) :
    wpAny (model prog w) A (subscriptTail value slice (.ref X) (.int ((n.fdiv 50625).fmod 4) u)) Q E s := by
  have ht : IsTup s.heap X [Value.ref T0, .ref T1, .ref T2, .ref T3].toArray := News.isTup N hX
  have key : ∀ j x, (n.fdiv 50625).fmod 4 = ((j : Nat) : Int) → j < 4 → [Value.ref T0, .ref T1, .ref T2, .ref T3][j]? = some x → Q x s → wpAny (model prog w) A (subscriptTail value slice (.ref X) (.int ((n.fdiv 50625).fmod 4) u)) Q E s := by
    intro j x e hj hx q
    refine item_tupleT ht ?_ ?_ (j := j) ?_ hx q hs
    · rw [e]; exact (nat4 hj).1
    · rw [e]; exact (nat4 hj).2.1
    · rw [e]; exact StrLaws.seqIndex_nonneg (Int.natCast_nonneg j) (nat4 hj).2.2
  rcases fmod4 (n.fdiv 50625) with h | h | h | h
  · exact key 0 _ h (by decide) rfl (k T0 _ _ _ _ p0 h0 (by rw [lvS0 h]; exact .cons _ _ (.cons _ _ (.cons _ _ (.cons _ _ .nil)))))
  · exact key 1 _ h (by decide) rfl (k T1 _ _ _ _ p1 h1 (by rw [lvS1 h]; exact .cons _ _ (.cons _ _ (.cons _ _ (.cons _ _ .nil)))))
  · exact key 2 _ h (by decide) rfl (k T2 _ _ _ _ p2 h2 (by rw [lvS2 h]; exact .cons _ _ (.cons _ _ (.cons _ _ (.cons _ _ .nil)))))
  · exact key 3 _ h (by decide) rfl (k T3 _ _ _ _ p3 h3 (by rw [lvS3 h]; exact .cons _ _ (.cons _ _ (.cons _ _ (.cons _ _ .nil)))))
/-- a slice of a tuple from its front, its end a name -/
theorem slicePre {value slice : PySem.Expr} {vs : List Value} {a : Int} {u : Tok} {Q : Value → Shared → Prop} (F : Fr h₀ L s.heap m) (N : News h₀ L s.heap news) (hm : (t, tupOb vs.toArray) ∈ news) (h0 : 0 ≤ a) (ha : a ≤ vs.length) (hz : vs.length ≤ 8)
    (h : ∀ D h' led', Fr h₀ L h' m → News h₀ L h' led' → (∀ q ∈ news, q ∈ led') → (D, tupOb (vs.take a.toNat).toArray) ∈ led' → Q (.ref D) { s with heap := h' })
    (hs : subscripted slice false (.ref t) (.ref s.heap.objs.size) = operate [.ref s.heap.objs.size, .ref t] (getItem (.ref t) (.ref s.heap.objs.size)))
    (hg : ∀ r, letTemporaryGo value (.ref t) r = pure ()) :
    wpAny (model prog w) A (subscriptTail value slice (.ref t) (.ref s.heap.objs.size)) Q E { s with heap := s.heap.push { cls := .type "slice", data := .fields #[.none, .int a u, .none] } } := by
  have ht : IsTup s.heap t vs.toArray := News.isTup N hm
  rcases Int.lt_or_eq_of_le ha with hl | hl
  · exact sliceT_upto F N ht h0 (by simpa using hl) (by rw [List.toList_toArray]) (fun D h' F' N' _ => h D h' _ F' N' (fun q hq => .tail _ hq) (.head _)) hs hg (by rw [List.size_toArray, sizeLine_eq]; exact Nat.le_trans hz (by decide))
  · refine sliceT_all F N ht (by simpa using hl) (fun h' F' N' => h t h' _ F' N' (fun q hq => hq) ?_) hs hg
    rw [hl, Int.toNat_natCast, List.take_length]
    exact hm
end
/-- a call of _law_sizes -/
theorem sizesBack {g h : Heap} {L : Addr} {m : Str → Option Value} {Lg need : List (Addr × Obj)} {n : Int} {C : Value → Heap → Nat → Prop} (N : News g L h Lg) (hs : ∀ p ∈ need, p ∈ Lg)
    (k : ∀ (D : Addr) (u0 u1 u2 u3 : Tok) (h' : Heap) (tk' : Nat), ApN D Lg → Fr g L h' m → News g L h' ((D, LCg.lst [.int (szv n 0) u0, .int (szv n 1) u1, .int (szv n 2) u2, .int (szv n 3) u3]) :: Lg) → C (.ref D) h' tk')
    (v : Value) (new : List (Addr × Obj)) (h' : Heap) (tk' : Nat) (hP : ∃ D u0 u1 u2 u3, v = .ref D ∧ new = [(D, LCg.lst [.int (szv n 0) u0, .int (szv n 1) u1, .int (szv n 2) u2, .int (szv n 3) u3])]) (b : BackK g L m h need new h') : C v h' tk' := by
  obtain ⟨D, u0, u1, u2, u3, rfl, rfl⟩ := hP
  have u := BackK.use b N hs
  exact k D u0 u1 u2 u3 h' tk' (u.2 _ (.head _)) (BackK.fr b) u.1
end Mine
end
section
open PySem PySem.W PyProof.Rows PySem.Calls
set_option maxRecDepth 100000
set_option maxHeartbeats 0
set_option linter.unusedVariables false
namespace Mine
theorem f_levels (w : World) (n : Int) (t1 : Tok) (hn : 0 ≤ n) (hn2 : n < 1000000) : ClaimF w 60 240 128 [] [.int n t1] (fun v new => ∃ D ys, v = .ref D ∧ new = [(D, LCg.lst ys)] ∧ IntsAre ys (cums (lvS n))) := by
  unfold ClaimF
  k_fill
  intro mean mg mb dp un gd cn cs a ccd cl outer A₀ base h₀ L m s Q E Bz Fz Xz Nz Tz hk hd hu hr
  refine wpAny_call ?_
  k_dflt (refine' enterC ?k1 ?k2 ?k3 ?k4 ?k5 ?kA ?kF ?kK ?k6 ?k7 ?k8 ?k9 ?kB ?kD ?_ ?c2 ?c3 ?c4; (case kA => exact rfl); (case kF => exact rfl); (case kK => assumption); (case k1 => k_asm); (case k2 => k_asm); (case k3 => k_asm); (case k4 => k_asm); (case k5 => k_asm); (case k6 => k_is); (case k7 => k_is); (case k8 => ktr_room); (case k9 => exact BindsTo.of_eq rfl); (case kB => exact rfl); (case kD => decide +kernel); (case c2 => exact rfl); (case c3 => exact rfl); (case c4 => exact rfl); k_whole; intro gH L' h' tk' cells' hg FG' F' N' Y' B' X' T' l1; (try k_lt l1); k_cells Y'; (try simp only [List.cons_append, List.nil_append] at N'); (try dsimp only); (try k_fold))
  rename_i oc dc
  obtain ⟨vc, gc⟩ : ∃ v, oc.data = Data.cell v := ⟨_, dc⟩
  clear dc
  refine opaqH (fun Q' hQ' => ?_)
  refine fr1 (x1 := Str.ofString "number") (v1 := .int n t1) F' (by with_unfolding_all rfl) (fun m0 F0 => ?_)
  clear F'
  (repeat' (first | (k_unfold; (try dsimp only)) | ((with_reducible show wpAny _ _ (execs (_ :: _) _) _ _ _); (try k_gentoks); refine execsO ?_; intro _ _) | ((with_reducible show wpAny _ _ (call (Value.ref _) _ _) _ _ _); refine Stop.mk ?_) | walk1 | (dsimp only; walk1) | (leave1; walk_say "STEP leave1"; (try dsimp only)) | (refine Nx.nx (by with_reducible assumption) ?_) | (refine Nx.rt (by with_reducible assumption) ?_) | fail "no step"))
  unfold Stop
  rename News _ _ _ _ => N99
  rename Fr _ _ _ _ => F99
  k_dflt (refine' f_sizes _ _ _ hn hn2 _ _ _ _ _ _ _ _ _ _ _ _ _ _ _ _ _ ?qB ?qF ?qX ?qN ?qT ?qK ?qD ?qU ?_)
  case qB => first | assumption | k_asm
  case qF => exact F99
  case qX => assumption
  case qN => exact News.nil
  case qT => assumption
  case qK => first | (k_dflt (exact rfl)) | assumption
  case qD => first | decide | ktr_room
  case qU => first | decide | ktr_units
  refine sizesBack N99 (List.forall_mem_nil _) (fun D u0 u1 u2 u3 h' tk' an F' N' => ?_)
  clear F99 N99
  (try dsimp only)
  (repeat' (first | (k_unfold; (try dsimp only)) | ((with_reducible show wpAny _ _ (execs (_ :: _) _) _ _ _); (try k_gentoks); refine execsO ?_; intro _ _) | ((with_reducible show wpAny _ _ (subscriptTail _ _ (Value.ref _) (Value.int (Int.fmod _ _) _)) _ _ _); refine Stop.mk ?_) | walk1 | (dsimp only; walk1) | (leave1; walk_say "STEP leave1"; (try dsimp only)) | (refine Nx.nx (by with_reducible assumption) ?_) | (refine Nx.rt (by with_reducible assumption) ?_) | fail "no step"))
  unfold Stop
  rename News _ _ _ _ => N99
  rename Fr _ _ _ _ => F99
  rename_i T0 h0 l0 T1 h1 l1 T2 h2 l2 T3 h3 l3 X h4 l4
  refine pickLv N99 (.head _) (.tail _ (.tail _ (.tail _ (.tail _ (.head _))))) (.tail _ (.tail _ (.tail _ (.head _)))) (.tail _ (.tail _ (.head _))) (.tail _ (.head _)) (P := fun T => @LT.lt Nat _ (L' + 1) T) l0.2 l1.2.2 l2.2.2.2 l3.2.2.2.2 (fun T x0 x1 x2 x3 aT mT hI => ?_) (by with_unfolding_all rfl)
  have N9 : News gH L' _ [(T, tupOb #[x0, x1, x2, x3]), (L' + 1, oc)] := News.less N99 (List.forall_mem_cons.mpr ⟨mT, List.forall_mem_singleton.mpr (.tail _ (.tail _ (.tail _ (.tail _ (.tail _ (.tail _ (.head _)))))))⟩)
  clear l0 l1 l2 l3 l4 N99 mT
  obtain ⟨m9, F9⟩ : ∃ m9, Fr gH L' _ m9 := ⟨_, F99⟩
  clear F99
  (repeat' (first | (k_unfold; (try dsimp only)) | ((with_reducible show wpAny _ _ (execs (_ :: _) _) _ _ _); (try k_gentoks); refine execsO ?_; intro _ _) | ((with_reducible show wpAny _ _ (eval (.ListComp _ _ _ _) _) _ _ _); k_here; k_dflt (refine LCg.ListComp_U (F₀ := by k_asm) (by with_unfolding_all rfl) (by decide) (by rfl) (by decide) (by rfl) ?_)) | ((with_reducible show LCg.CompSrc _ _ _ _ _ _ _ _ _ _ _ _ _ _); refine Stop.mk ?_) | walk1 | (dsimp only; walk1) | (leave1; walk_say "STEP leave1"; (try dsimp only)) | (refine Nx.nx (by with_reducible assumption) ?_) | (refine Nx.rt (by with_reducible assumption) ?_) | fail "no step"))
  unfold Stop
  rename News _ _ _ _ => N8
  refine LCg.CompSrc.range rfl (by k_asm) N8 (by assumption) (by first | decide | rfl) (by first | rfl | decide) (by first | size_fits | exact Nat.le_of_ble_eq_true rfl) ?_
  intro g'
  refine restU_inv (n := 4) (fun i y => ∃ t, y = .int ((cums (lvS n)).getD i 0) t) (fun i' v' I' oI' C' oC' D' m' ys' h' tk' E' hi' hv' hC' hx' F' N' off' ne' => ?_) (fun zs hzl hzr => ?_)
  · obtain ⟨t9, rfl⟩ := hv'
    clear N8
    (repeat' (first | (k_unfold; (try dsimp only)) | ((with_reducible show wpAny _ _ (execs (_ :: _) _) _ _ _); (try k_gentoks); refine execsO ?_; intro _ _) | ((with_reducible show wpAny _ _ (subscriptTail _ _ (Value.ref _) (Value.ref _)) _ _ _); refine Stop.mk ?_) | ((with_reducible show wpAny _ _ (call (Value.builtin "sum") [Value.ref _]) _ _ _); refine Stop.mk ?_) | walk1 | (dsimp only; walk1) | (leave1; walk_say "STEP leave1"; (try dsimp only)) | (refine Nx.nx (by with_reducible assumption) ?_) | (refine Nx.rt (by with_reducible assumption) ?_) | fail "no step"))
    unfold Stop
    k_dflt (refine' slicePre (vs := [x0, x1, x2, x3]) ?F ?N ?l (plus1 i').1 ((plus1 i').2 hi') (by show 4 ≤ 8; decide) (fun D h9 led' F9 N9 hsub mD => ?_) ?s ?t)
    case F => k_asm
    case N => k_asm
    case l => k_mem
    case s => with_unfolding_all rfl
    case t => kmk_pure
    clear N' F'
    (repeat' (first | (k_unfold; (try dsimp only)) | ((with_reducible show wpAny _ _ (execs (_ :: _) _) _ _ _); (try k_gentoks); refine execsO ?_; intro _ _) | ((with_reducible show wpAny _ _ (subscriptTail _ _ (Value.ref _) (Value.ref _)) _ _ _); refine Stop.mk ?_) | ((with_reducible show wpAny _ _ (call (Value.builtin "sum") [Value.ref _]) _ _ _); refine Stop.mk ?_) | walk1 | (dsimp only; walk1) | (leave1; walk_say "STEP leave1"; (try dsimp only)) | (refine Nx.nx (by with_reducible assumption) ?_) | (refine Nx.rt (by with_reducible assumption) ?_) | fail "no step"))
    unfold Stop
    k_dflt (refine' ktm_sumK ?k0 ?k1 ?k2 mD (Mine.IntsAre.take' hI _) ?_)
    case k0 => with_unfolding_all rfl
    case k1 => k_asm
    case k2 => k_asm
    intro h8 tk8 t8 F8 N8
    (try dsimp only)
    exact LCg.CompEnd.intro F8 N8 _ (fun p hp => hsub p hp) off' trivial ⟨rfl, _, congrArg (Value.int · t8) (cums_take (lvS_len n) hi')⟩
  · have hints := ints_of_rel (ns := cums (lvS n)) (by obtain ⟨a, b, c, d, e⟩ := lvS_len n; rw [hzl, e]; rfl) hzr
    clear N8 hzr
    unfold LCg.FinE
    intro D2 h2 tk2 F2 N2 off2
    (try dsimp only)
    (repeat' (first | (k_unfold; (try dsimp only)) | ((with_reducible show wpAny _ _ (execs (_ :: _) _) _ _ _); (try k_gentoks); refine execsO ?_; intro _ _) | walk1 | (dsimp only; walk1) | (leave1; walk_say "STEP leave1"; (try dsimp only)) | (refine Nx.nx (by with_reducible assumption) ?_) | (refine Nx.rt (by with_reducible assumption) ?_) | fail "no step"))
    refine hQ' _ _ ?_
    (try dsimp only)
    (repeat' (first | (k_unfold; (try dsimp only)) | ((with_reducible show wpAny _ _ (execs (_ :: _) _) _ _ _); (try k_gentoks); refine execsO ?_; intro _ _) | walk1 | (dsimp only; walk1) | (leave1; walk_say "STEP leave1"; (try dsimp only)) | (refine Nx.nx (by with_reducible assumption) ?_) | (refine Nx.rt (by with_reducible assumption) ?_) | fail "no step"))
    refine hr _ [(_, _)] _ _ ⟨_, zs, rfl, rfl, hints⟩ (BackK.of hg (by assumption) (by assumption) (by assumption) (by assumption) ?_ (fun p _ q hq => nomatch hq))
    intro p hp
    exact (List.mem_append.mp hp).elim (fun hp => List.mem_singleton.mp hp ▸ List.mem_cons_self ..) fun hp => nomatch hp
end Mine
end
section
open PySem PySem.W PyProof.Rows PySem.Calls
set_option maxRecDepth 100000
namespace Mine
section
variable {M : Model} {A : Around} {R : GenEnd} {Y : Protocol} {n : Nat} {s₀ : Shared} {c : Code} {fs : List Frame} {s : Shared} {env : Env}
  {K : Flow → Sem Fin} {H : Value → Sem Fin} {gd : Bool → Bool} {lv : List Value → List Value}
theorem seg_W {α : Type} {m : Sem α} {K : α → Sem Fin} {H : Value → Sem Fin} {gd : Bool → Bool} {lv : List Value → List Value}
    (h : wpAny M (A.over c fs) m (fun a s' => Seg M A R Y n s₀ c (K a) fs s') (fun _ _ => False) s) : Seg M A R Y n s₀ c (m.wrap K H gd lv) fs s :=
  seg_wrap (wpAny_noRaise h)
theorem seg_For {target iter : Expr} {body orelse : List Stmt} {pos : Pos} (hs : ∀ x, foldedSetIterable iter env x = pure x)
    (h : wpAny M (A.over c fs) (eval iter env) (fun x s' => wpAny M (A.over c fs) (pyIter x) (fun it s'' => ∀ p, Seg M A R Y n s₀ (.forLoop target it body orelse env) (M.den (.forLoop target it body orelse env))
      (.ret (fun r => ((match r with | .ok f => (.pure f : Sem Flow) | .error e => .raise e).onRaise fun (x : Value) => do
        if (← field x 1) == Value.none then unsupported "frame.own-activation:exception-without-traceback"
        setFlight x env.frame).wrap K H gd lv) none (gd false) (lv []) c p [] :: fs) s'') (fun _ _ => False) s') (fun _ _ => False) s) :
    Seg M A R Y n s₀ c ((exec (.For target iter body orelse pos) env).wrap K H gd lv) fs s := by
  rw [exec_For]
  refine seg_at ?_
  show Seg M A R Y n s₀ c (((eval iter env) >>= fun v => (foldedSetIterable iter env v >>= fun x => (standAt iter.pos >>= fun _ => (holding [x] (pyIter x) >>= fun it => runOwn (.forLoop target it body orelse env) env)))).wrap K H gd lv) fs s
  rw [Sem.bind_eq_wrap', Sem.wrap_wrap]
  refine seg_W (wpAny_mono h (fun x s' h' => ?_) fun _ _ x => x)
  rw [hs]
  show Seg M A R Y n s₀ c ((standAt iter.pos >>= fun _ => (holding [x] (pyIter x) >>= fun it => runOwn (.forLoop target it body orelse env) env)).wrap K H _ _) fs s'
  refine seg_at ?_
  show Seg M A R Y n s₀ c ((holding [x] (pyIter x) >>= fun it => runOwn (.forLoop target it body orelse env) env).wrap K H _ _) fs s'
  rw [Sem.bind_eq_wrap', Sem.wrap_wrap]
  refine seg_W (wpAny_holding (wpAny_mono h' (fun it s'' h'' => ?_) fun _ _ x => x))
  exact seg_call h''
theorem seg_If {test : Expr} {body orelse : List Stmt} {pos : Pos}
    (h : wpAny M (A.over c fs) (isTrue test env (eval test env)) (fun b s' => if b = true then Seg M A R Y n s₀ c ((execs body env).wrap K H gd lv) fs s' else Seg M A R Y n s₀ c ((execs orelse env).wrap K H gd lv) fs s') (fun _ _ => False) s) :
    Seg M A R Y n s₀ c ((exec (.If test body orelse pos) env).wrap K H gd lv) fs s := by
  show Seg M A R Y n s₀ c ((standAt pos >>= fun _ => (isTrue test env (eval test env) >>= fun b => if b = true then execs body env else execs orelse env)).wrap K H gd lv) fs s
  refine seg_at ?_
  show Seg M A R Y n s₀ c ((isTrue test env (eval test env) >>= fun b => if b = true then execs body env else execs orelse env).wrap K H gd lv) fs s
  rw [Sem.bind_eq_wrap', Sem.wrap_wrap]
  refine seg_W (wpAny_mono h (fun b s' hb => ?_) fun _ _ x => x)
  cases b with
  | true => rw [if_pos rfl] at hb; exact hb
  | false => rw [if_neg Bool.false_ne_true] at hb; exact hb
end
section
variable {prog : Program} {w : World} {A : Around} {R : GenEnd} {Y : Protocol} {n : Nat} {s₀ : Shared} {fs : List Frame} {s : Shared} {env : Env}
theorem seg_block_nil (h : ∀ c', Seg (model prog w) A R Y n s₀ c' (.pure (.done .next)) fs s) : Seg (model prog w) A R Y n s₀ (.block [] env) ((model prog w).den (.block [] env)) fs s := h _
theorem seg_forLoop {target : Expr} {it : Value} {body orelse : List Stmt} (ht : ∀ v, letOwnedTupleGo target it v = pure ())
    (h : wpAny (model prog w) (A.over (.forLoop target it body orelse env) fs) (pyNext it) (fun r s' => match r with
      | none => Seg (model prog w) A R Y n s₀ (.block orelse env) ((model prog w).den (.block orelse env)) fs s'
      | some v => wpAny (model prog w) (A.over (.forLoop target it body orelse env) fs) (assign target env v) (fun _ s'' =>
          Seg (model prog w) A R Y n s₀ (.forLoop target it body orelse env) ((execs body env).wrap (fun f => match f with
            | .next | .cont => .pure (.again (.forLoop target it body orelse env))
            | .brk => .pure (.done .next)
            | .ret v => .pure (.done (.ret v))) (fun e => (do noteFrame e env; theTreesLotGoes e : Sem Unit).wrap (fun _ => .raise e) .raise id id) id id) fs s'') (fun _ _ => False) s') (fun _ _ => False) s) :
    Seg (model prog w) A R Y n s₀ (.forLoop target it body orelse env) ((model prog w).den (.forLoop target it body orelse env)) fs s := by
  show Seg _ A R Y n s₀ _ ((forTurn target it body orelse env).onRaise (fun x => do noteFrame x env; theTreesLotGoes x)) fs s
  rw [Sem.onRaise_eq_wrap]
  unfold forTurn
  refine seg_at ?_
  show Seg _ A R Y n s₀ _ (Sem.wrap _ _ _ _ (((pyNext it).onRaise (fun _ => standAt { target.pos with line := 0 })) >>= _)) fs s
  rw [Sem.bind_eq_wrap', Sem.wrap_wrap]
  refine seg_W (wpAny_onRaise (wpAny_mono h (fun r s' h' => ?_) fun _ _ x => x.elim))
  cases r with
  | none => exact seg_again rfl h'
  | some v =>
    show Seg _ A R Y n s₀ _ (Sem.wrap _ _ _ _ (letOwnedTupleGo target it v >>= fun _ => (assign target env v >>= fun _ => (execs body env >>= _)))) fs s'
    rw [ht]
    show Seg _ A R Y n s₀ _ (Sem.wrap _ _ _ _ (assign target env v >>= fun _ => (execs body env >>= _))) fs s'
    rw [Sem.bind_eq_wrap', Sem.wrap_wrap]
    refine seg_W (wpAny_mono h' (fun _ s'' h'' => ?_) fun _ _ x => x)
    rw [Sem.bind_eq_wrap', Sem.wrap_wrap]
    rw [Sem.wrap_congr (execs body env) _ _ (K' := fun f => match f with
            | .next | .cont => .pure (.again (.forLoop target it body orelse env))
            | .brk => .pure (.done .next)
            | .ret v => .pure (.done (.ret v))) (H' := (fun e => (do noteFrame e env; theTreesLotGoes e : Sem Unit).wrap (fun _ => .raise e) .raise id id))
        (fun f => by cases f <;> rfl)
        (fun e => by first | exact Sem.bind_eq_wrap _ _ | (show (do noteFrame e env; theTreesLotGoes e : Sem Unit).bind (fun _ => .raise e) = _; rw [Sem.bind_eq_wrap]))]
    exact h''
end
end Mine
end
section
open PySem PySem.W PyProof.Rows PySem.Calls
set_option maxRecDepth 100000
namespace Mine
noncomputable abbrev genv (L : Addr) : Env := envOf (Str.ofString "_grouping_intervals") (fnScope 6) L 42 (Value.ref 41)
abbrev nmI : Str := Str.ofString "interval"
abbrev nmL : Str := Str.ofString "last_interval"
abbrev nmG : Str := Str.ofString "grouping"
noncomputable def gWBody : List Stmt := [.Expr (.Yield (some (.Name nmL ⟨60, 22, 60, 35⟩)) ⟨60, 16, 60, 35⟩) ⟨60, 16, 60, 35⟩]
noncomputable def gBody : List Stmt := [
  .If (.Compare (.Name nmI ⟨54, 11, 54, 19⟩) [.Eq] [.Name (Str.ofString "CHAR_MAX") ⟨54, 23, 54, 31⟩] ⟨54, 11, 54, 31⟩) [.Return none ⟨55, 12, 55, 18⟩] [] ⟨54, 8, 55, 18⟩,
  .If (.Compare (.Name nmI ⟨56, 11, 56, 19⟩) [.Eq] [.Constant (.int 0) 0 ⟨56, 23, 56, 24⟩] ⟨56, 11, 56, 24⟩)
    [.If (.Compare (.Name nmL ⟨57, 15, 57, 28⟩) [.Is] [.Constant .none 0 ⟨57, 32, 57, 36⟩] ⟨57, 15, 57, 36⟩)
      [.Raise (some (.Call (.Name (Str.ofString "ValueError") ⟨58, 22, 58, 32⟩) [.Constant (.str (Str.ofString "invalid grouping")) 0 ⟨58, 33, 58, 51⟩] [] ⟨58, 22, 58, 52⟩)) none ⟨58, 16, 58, 52⟩] [] ⟨57, 12, 58, 52⟩,
     .While (.Constant (.bool true) 0 ⟨59, 18, 59, 22⟩) gWBody [] ⟨59, 12, 60, 35⟩] [] ⟨56, 8, 60, 35⟩,
  .Expr (.Yield (some (.Name nmI ⟨61, 14, 61, 22⟩)) ⟨61, 8, 61, 22⟩) ⟨61, 8, 61, 22⟩,
  .Assign [.Name nmL ⟨62, 8, 62, 21⟩] (.Name nmI ⟨62, 24, 62, 32⟩) ⟨62, 8, 62, 32⟩]
abbrev gTgt : Expr := .Name nmI ⟨53, 8, 53, 16⟩
noncomputable def gAll : List Stmt := [.Assign [.Name nmL ⟨52, 4, 52, 17⟩] (.Constant .none 0 ⟨52, 20, 52, 24⟩) ⟨52, 4, 52, 24⟩, .For gTgt (.Name nmG ⟨53, 20, 53, 28⟩) gBody [] ⟨53, 4, 62, 32⟩]
theorem gAll_eq : fnBody 6 = gAll := rfl
/-- what the generator gives, asked n times -/
noncomputable def gi : Nat → Option Int → List Int → List Int
  | 0, _, _ => []
  | _ + 1, _, [] => []
  | n + 1, last, x :: r => if x = 127 then [] else if x = 0 then (match last with | some l => List.replicate (n + 1) l | none => []) else x :: gi n (some x) r
noncomputable def noErr : Option Int → List Int → Prop
  | none, x :: _ => x ≠ 0
  | _, _ => True
inductive LastIs : Value → Option Int → Prop
  | none : LastIs .none none
  | some (l : Int) (t : Tok) : LastIs (.int l t) (some l)
section
variable (gH : Heap) (Lg I row : Addr) (out : Nat → Option Int)
/-- what a run of the generator leaves as it was -/
noncomputable def Kp (s₀ s₁ : Shared) : Prop := ∃ h tk, s₁ = { s₀ with heap := h, toks := tk } ∧ ∀ b o, b ≠ Lg → b ≠ I → s₀.heap.get? b = some o → h.get? b = some o
noncomputable def gR : GenEnd := fun n s₀ r s₁ => r = .ok (.ret .none) ∧ (∀ k, n = k + 1 → out k = none) ∧ Kp Lg I s₀ s₁
noncomputable def gY : Protocol := fun n s₀ v s₁ kap => (∃ x t, out n = some x ∧ v = .int x t) ∧ Kp Lg I s₀ s₁ ∧ (∃ oL oI, s₁.heap.get? Lg = some oL ∧ s₁.heap.get? I = some oI) ∧
  (∀ k, n = k + 1 → ∀ s'' : Shared, s''.heap.get? Lg = s₁.heap.get? Lg → s''.heap.get? I = s₁.heap.get? I → s''.heap.get? row = s₁.heap.get? row → (∀ b o, gH.get? b = some o → s''.heap.get? b = some o) → kap (.send .none) s'')
end
theorem Kp.refl {Lg I : Addr} {s : Shared} : Kp Lg I s s := ⟨s.heap, s.toks, rfl, fun _ _ _ _ e => e⟩
theorem Kp.step {Lg I : Addr} {s₀ s₁ : Shared} (k : Kp Lg I s₀ s₁) {h : Heap} {tk : Nat} (hk : ∀ b o, b ≠ Lg → b ≠ I → s₁.heap.get? b = some o → h.get? b = some o) : Kp Lg I s₀ { s₁ with heap := h, toks := tk } := by
  obtain ⟨h1, t1, rfl, k1⟩ := k
  exact ⟨h, tk, rfl, fun b o n1 n2 e => hk b o n1 n2 (k1 b o n1 n2 e)⟩
section
variable {w : World} {mean : ExcName → Option Value} {mg mb : Str → Option Value} {gH : Heap} {Lg I row : Addr} {M : Model} {A : Around} {E : Value → Shared → Prop} {s : Shared}
theorem g_local {x : Str} {pos : Pos} {m : Str → Option Value} {v : Value} {Q : Value → Shared → Prop} (hx : (genv Lg).kindOf x = some .local) (ns : s.heap.Ns Lg m) (hm : m x = some v) (h : Q v s) (hd : (x == Str.ofString "__debug__") = false) :
    wpAny M A (eval (.Name x pos) (genv Lg)) Q E s := wpAny_Name (wpAny_loadName_local rfl hx ns hm h) hd
theorem g_max {pos : Pos} {Q : Value → Shared → Prop} (keep : ∀ b o, gH.get? b = some o → s.heap.get? b = some o) (X : (heapK w.params).In gH) (T : Top viewQ (looseW viewQ looseQ) mean mg mb gH) (h : ∀ t, Q (.int 127 t) s) :
    wpAny M A (eval (.Name (Str.ofString "CHAR_MAX") pos) (genv Lg)) Q E s :=
  Name_function_global rfl rfl (loadGlobal_global (env := genv Lg) (T.g.keeps keep) (mg_of X T.g (by with_unfolding_all rfl)) (h _))
end
end Mine
end
section
open PySem PySem.W PyProof.Rows PySem.Calls
set_option maxRecDepth 100000
namespace Mine
section
variable {w : World} {mean : ExcName → Option Value} {mg mb : Str → Option Value} {gH : Heap} {Lg I row : Addr} {A : Around} {out : Nat → Option Int} {fs : List Frame}
theorem ns_same {h h' : Heap} {a : Addr} {m : Str → Option Value} (x : h.Ns a m) (e : h'.get? a = h.get? a) : h'.Ns a m := x.at' fun o ho => e ▸ ho
theorem it_same {h h' : Heap} {a l : Addr} {j : Nat} (x : h.IsListIter a l j) (e : h'.get? a = h.get? a) : h'.IsListIter a l j := let ⟨o, ho, r⟩ := x; ⟨o, e ▸ ho, r⟩
theorem li_same {h h' : Heap} {a : Addr} {its : Array Value} (x : h.IsList a its) (e : h'.get? a = h.get? a) : h'.IsList a its := let ⟨o, ho, r⟩ := x; ⟨o, e ▸ ho, r⟩
theorem gen_while {l : Int} {t : Tok} {j : Nat} {vs : List Value} (hfs : splitAtGen fs = none) (hfg : fs.any Frame.guarded = false) : ∀ (n : Nat) (m : Str → Option Value) (s₀ s : Shared), s.heap.Ns Lg m → m nmL = some (.int l t) → s.heap.IsListIter I row j →
    Kp Lg I s₀ s → (∀ k, k ≤ n → out k = some l) →
    Seg (model lawRow.prog w) A (gR Lg I out) (gY gH Lg I row out) (n + 1) s₀ (.whileLoop (.Constant (.bool true) 0 ⟨59, 18, 59, 22⟩) gWBody [] (genv Lg)) ((model lawRow.prog w).den (.whileLoop (.Constant (.bool true) 0 ⟨59, 18, 59, 22⟩) gWBody [] (genv Lg))) fs s := by
  intro n
  induction n with
  | zero =>
    intro m s₀ s ns hm hit hk ho
    refine seg_whileLoop (isTrue_plain (wpAny_Constant_bool (wpAny_truthy_bool ?_)))
    rw [if_pos rfl]
    unfold gWBody
    refine seg_execs_cons (seg_Expr_Yield hfs rfl hfg (g_local (by rfl) ns hm (fun kap hkap => ?_) (by decide)))
    obtain ⟨oL, es, ep, hL, _⟩ := id ns
    obtain ⟨oI, hI, _⟩ := id hit
    exact ⟨⟨l, t, ho 0 (Nat.le_refl _), rfl⟩, hk, ⟨oL, oI, hL, hI⟩, fun k e => nomatch e⟩
  | succ n ih =>
    intro m s₀ s ns hm hit hk ho
    refine seg_whileLoop (isTrue_plain (wpAny_Constant_bool (wpAny_truthy_bool ?_)))
    rw [if_pos rfl]
    unfold gWBody
    refine seg_execs_cons (seg_Expr_Yield hfs rfl hfg (g_local (by rfl) ns hm (fun kap hkap => ?_) (by decide)))
    obtain ⟨oL, es, ep, hL, _⟩ := id ns
    obtain ⟨oI, hI, _⟩ := id hit
    refine ⟨⟨l, t, ho _ (Nat.le_refl _), rfl⟩, hk, ⟨oL, oI, hL, hI⟩, fun k e s'' e1 e2 e3 kp => hkap .none s'' ?_⟩
    refine seg_execs_nil (seg_again rfl ?_)
    exact ih m s'' s'' (ns_same ns e1) hm (it_same hit e2) Kp.refl fun k hk => ho k (Nat.le_succ_of_le hk)
theorem drop_at {vs : List Value} {j : Nat} {v : Value} {r : List Value} (h : vs.drop j = v :: r) : vs[j]? = some v ∧ vs.drop (j + 1) = r := by
  have h1 : (vs.drop j)[0]? = some v := by rw [h]; rfl
  rw [List.getElem?_drop] at h1
  refine ⟨by simpa using h1, ?_⟩
  have := congrArg List.tail h
  simpa [List.tail_drop] using this
theorem drop_nil {vs : List Value} {j : Nat} (h : vs.drop j = []) : vs[j]? = none := by
  rw [List.drop_eq_nil_iff] at h
  exact List.getElem?_eq_none h
theorem gen_loop {vs : List Value} (hfs : splitAtGen fs = none) (hfg : fs.any Frame.guarded = false) (hh : (marksOver fs (A.handled, A.handled)).1 = none) (X : (heapK w.params).In gH) (T : Top viewQ (looseW viewQ looseQ) mean mg mb gH)
    (hLI : @Ne Nat Lg I) (hrL : @Ne Nat row Lg) (hrI : @Ne Nat row I) (hgL : gH.get? Lg = none) (hgI : gH.get? I = none)
    (hN : ∀ n s₀ c' s₁, gR Lg I out n s₀ (.ok (.ret .none)) s₁ → Seg (model lawRow.prog w) A (gR Lg I out) (gY gH Lg I row out) n s₀ c' (.pure (.done .next)) fs s₁)
    (hV : ∀ n s₀ c' s₁, gR Lg I out n s₀ (.ok (.ret .none)) s₁ → Seg (model lawRow.prog w) A (gR Lg I out) (gY gH Lg I row out) n s₀ c' (.pure (.done (.ret .none))) fs s₁) :
    ∀ (n : Nat) (us : List Value) (r : List Int) (j : Nat) (last : Option Int) (lv : Value) (m : Str → Option Value) (s₀ s : Shared), vs.drop j = us → IntsAre us r → s.heap.Ns Lg m → m nmL = some lv → LastIs lv last → s.heap.IsListIter I row j → s.heap.IsList row vs.toArray →
    (∀ b o, gH.get? b = some o → s.heap.get? b = some o) → Kp Lg I s₀ s → noErr last r → (∀ k, k < n + 1 → out (n - k) = (gi (n + 1) last r)[k]?) →
    Seg (model lawRow.prog w) A (gR Lg I out) (gY gH Lg I row out) (n + 1) s₀ (.forLoop gTgt (.ref I) gBody [] (genv Lg)) ((model lawRow.prog w).den (.forLoop gTgt (.ref I) gBody [] (genv Lg))) fs s := by
  have ltI : ∀ (b : Addr) (o : Obj), gH.get? b = some o → @Ne Nat b I ∧ @Ne Nat b Lg := by
    intro b o e
    constructor
    · intro q
      have q' : b = I := q
      rw [q', hgI] at e
      cases e
    · intro q
      have q' : b = Lg := q
      rw [q', hgL] at e
      cases e
  intro n
  induction n using Nat.strongRecOn with
  | _ n ih =>
    intro us r j last lv m s₀ s hd hi ns hm hl hit hli keep hk hne ho
    refine seg_forLoop (by intro _; rfl) ?_
    cases hi with
    | nil =>
      refine wpAny_pyNext_list_end hh hit hli (by simpa using drop_nil hd) fun h' hx => ?_
      refine seg_block_nil fun c' => hN _ _ _ _ ⟨rfl, fun k e => ?_, hk.step fun b o _ n2 e => hx b o n2 e⟩
      have := ho 0 (Nat.zero_lt_succ _)
      have e' := Nat.succ.inj e
      subst e'
      exact this
    | @cons x t us' r' hi' =>
      obtain ⟨hj, hd'⟩ := drop_at hd
      refine wpAny_pyNext_list_item hit hli (by simpa using hj) fun h1 hit1 hs1 => ?_
      have ns1 : h1.Ns Lg m := ns.sameBut hs1 hLI
      refine wpAny_assign_Name (wpAny_storeName_local (by rfl) ns1 fun h2 ns2 hs2 => ?_)
      have keep2 : ∀ b o, gH.get? b = some o → h2.get? b = some o := fun b o e => (hs2.2 _ (ltI _ _ e).2).trans ((hs1.2 _ (ltI _ _ e).1).trans (keep b o e))
      have hit2 : h2.IsListIter I row (j + 1) := it_same hit1 (hs2.2 _ (Ne.symm hLI))
      have hli2 : h2.IsList row vs.toArray := li_same hli ((hs2.2 _ hrL).trans (hs1.2 _ hrI))
      have k2 : ∀ tk, Kp Lg I s₀ { s with heap := h2, toks := tk } := fun tk => hk.step fun b o n1 n2 e => (hs2.2 _ n1).trans ((hs1.2 _ n2).trans e)

      refine seg_execs_cons (seg_If (wpAny_isTrue_Compare1 (g_local (by rfl) ns2 (by rfl) (g_max keep2 X T fun tm => eq_int (wpAny_truthy_bool ?_)) (by decide))))
      by_cases h127 : x = 127
      · subst h127
        rw [if_pos (by rfl)]
        refine seg_execs_cons (seg_W (wpAny_Return_none ?_))
        refine hV _ _ _ _ ⟨rfl, fun k e => ?_, k2 _⟩
        have := ho 0 (Nat.zero_lt_succ _)
        have e' := Nat.succ.inj e
        subst e'
        exact this
      · rw [if_neg (by simpa using h127)]
        refine seg_execs_nil (seg_execs_cons (seg_If (wpAny_isTrue_Compare1 (g_local (by rfl) ns2 (by rfl) (wpAny_Constant_int (eq_int (wpAny_truthy_bool ?_))) (by decide)))))
        by_cases h0 : x = 0
        · subst h0
          rw [if_pos (by rfl)]
          cases hl with
          | none => exact absurd rfl hne
          | some l tl =>
            refine seg_execs_cons (seg_If (wpAny_isTrue_Compare1 (g_local (by rfl) ns2 hm (wpAny_Constant_none (wpAny_is_plain (by rfl) (wpAny_truthy_bool ?_))) (by decide))))
            rw [if_neg (by intro h; cases h)]
            refine seg_execs_nil (seg_execs_cons (seg_While fun p => ?_))
            refine gen_while (l := l) (t := tl) (j := j + 1) (vs := vs) (by simp [splitAtGen, hfs]) (by simp [Frame.guarded, hfg]) n _ s₀ _ ns2 hm hit2 (k2 _) fun k hk => ?_
            have := ho (n - k) (by lia)
            rw [show n - (n - k) = k by lia] at this
            rw [this]
            show (List.replicate (n + 1) l)[n - k]? = some l
            rw [List.getElem?_replicate, if_pos (by lia)]
        · rw [if_neg (by simpa using h0)]
          have hgi : gi (n + 1) last (x :: r') = x :: gi n (some x) r' := by
            show (if x = 127 then [] else if x = 0 then _ else _) = _
            rw [if_neg h127, if_neg h0]
          rw [hgi] at ho
          refine seg_execs_nil (seg_execs_cons (seg_Expr_Yield hfs rfl hfg (g_local (by rfl) ns2 (by rfl) (fun kap hkap => ?_) (by decide))))
          obtain ⟨oL, es, ep, hL, _⟩ := id ns2
          obtain ⟨oI, hI, _⟩ := id hit2
          refine ⟨⟨x, t, ho 0 (Nat.zero_lt_succ _), rfl⟩, k2 _, ⟨oL, oI, hL, hI⟩, fun k e s'' e1 e2 e3 kp => hkap .none s'' ?_⟩
          refine seg_execs_cons (seg_W (wpAny_Assign_Name (g_local (by rfl) (ns_same ns2 e1) (by rfl) (wpAny_storeName_local (by rfl) (ns_same ns2 e1) fun h3 ns3 hs3 => ?_) (by decide))))
          refine seg_execs_nil (seg_again rfl ?_)
          subst e
          refine ih k (Nat.lt_succ_self k) us' r' (j + 1) (some x) (.int x t) _ s'' _ hd' hi' ns3 (by rfl) (.some x t) (it_same hit2 ((hs3.2 _ (Ne.symm hLI)).trans e2)) (li_same hli2 ((hs3.2 _ hrL).trans e3)) (fun b o e => (hs3.2 _ (ltI _ _ e).2).trans (kp b o e)) (Kp.refl.step fun b o n1 _ e => (hs3.2 _ n1).trans e) trivial fun i hi => ?_
          have := ho (i + 1) (by lia)
          rw [show k + 1 - (i + 1) = k - i by lia] at this
          rw [this]
          rfl
end
end Mine
end
section
open PySem PySem.W PyProof.Rows PySem.Calls
set_option maxRecDepth 100000
namespace Mine
section
variable {w : World} {mean : ExcName → Option Value} {mg mb : Str → Option Value} {gH : Heap} {Lg row : Addr} {A : Around} {out : Nat → Option Int}
theorem gen_start {vs : List Value} {its : List Int} {m : Str → Option Value} {s : Shared} {n : Nat} (hh : A.handled = none) (X : (heapK w.params).In gH) (T : Top viewQ (looseW viewQ looseQ) mean mg mb gH)
    (hrL : @Ne Nat row Lg) (hgL : gH.get? Lg = none) (hgI : gH.get? s.heap.objs.size = none) (ns : s.heap.Ns Lg m) (hm : m nmG = some (.ref row)) (hi : IntsAre vs its) (hli : s.heap.IsList row vs.toArray)
    (keep : ∀ b o, gH.get? b = some o → s.heap.get? b = some o) (hne : noErr none its) (ho : ∀ k, k < n + 1 → out (n - k) = (gi (n + 1) none its)[k]?) :
    (GenState.fresh (.func (fnBody 6) (genv Lg))).Goes (model lawRow.prog w) A (gR Lg s.heap.objs.size out) (gY gH Lg s.heap.objs.size row out) (n + 1) (.send .none) s := by
  refine ⟨rfl, seg_func ?_⟩
  rw [gAll_eq]
  unfold gAll
  obtain ⟨orow, erow, _⟩ := id hli
  obtain ⟨oL, es, ep, eL, _⟩ := id ns
  have l1 : @LT.lt Nat _ row s.heap.objs.size := Heap.lt_size erow
  have l2 : @LT.lt Nat _ Lg s.heap.objs.size := Heap.lt_size eL
  refine seg_execs_cons (seg_W (wpAny_Assign_Name (wpAny_Constant_none (wpAny_storeName_local (by rfl) ns fun h1 ns1 hs1 => ?_))))
  have hli1 : h1.IsList row vs.toArray := li_same hli (hs1.2 _ hrL)
  have ltL : ∀ (b : Addr) (o : Obj), gH.get? b = some o → @Ne Nat b Lg := by
    intro b o e q
    have q' : b = Lg := q
    rw [q', hgL] at e
    cases e
  refine seg_execs_cons (seg_For (by intro _; rfl) (g_local (by rfl) ns1 (by rw [if_neg (by decide)]; exact hm) (wpAny_pyIter_list hli1 fun p => ?_) (by decide)))
  have up : ∀ (o' : Obj) b o, h1.get? b = some o → (h1.push o').get? b = some o := fun _ _ _ e => Heap.get?_push_of_some _ e
  have hsz : h1.objs.size = s.heap.objs.size := hs1.1
  show Seg _ _ _ _ _ _ (.forLoop gTgt (.ref h1.objs.size) gBody [] (genv Lg)) _ _ _
  rw [hsz]
  refine gen_loop (vs := vs) (fs := _) (by rfl) (by rfl) (by exact hh) X T (Nat.ne_of_lt l2) hrL (Nat.ne_of_lt l1) hgL hgI ?_ ?_ n vs its 0 none .none _ _ _ rfl hi (ns1.keeps (up _)) (by rfl) .none ?_ ?_ ?_ ?_ hne ho
  · intro n s₀ c' s₁ h
    exact seg_leaf (.ok .next) (seg_end (.ok (.ret .none)) h)
  · intro n s₀ c' s₁ h
    exact seg_leaf (.ok (.ret .none)) (seg_end (.ok (.ret .none)) h)
  · refine ⟨{ cls := .type "list_iterator", data := .fields #[.ref row, .int 0 0] }, ?_, rfl, rfl⟩
    rw [← hsz]
    exact Heap.get?_push_size _ rfl
  · exact let ⟨o, e, r⟩ := hli1; ⟨o, up _ _ _ e, r⟩
  · intro b o e
    exact up _ _ _ ((hs1.2 _ (ltL b o e)).trans (keep b o e))
  · exact Kp.refl.step fun b o n1 _ e => up _ _ _ ((hs1.2 _ n1).trans e)
/-- the generator's state, asked n + 1 times more -/
noncomputable def GoNext (w : World) (A : Around) (gH : Heap) (Lg I row : Addr) (out : Nat → Option Int) (n : Nat) (gs : GenState) (s : Shared) : Prop :=
  gs.Goes (model lawRow.prog w) A (gR Lg I out) (gY gH Lg I row out) (n + 1) (.send .none) s
theorem bare_set {G : Array GenState} {g : Nat} {x : GenState} (h : AllBare G) (hx : x.bare = true) : AllBare (G.setIfInBounds g x) := fun y hy => by
  obtain ⟨i, hi, rfl⟩ := Array.mem_iff_getElem.mp hy
  rw [Array.getElem_setIfInBounds]
  split
  · exact hx
  · exact h _ (Array.getElem_mem _)
  · rw [Array.size_setIfInBounds] at hi; exact hi
/-- one more from the generator: as the library's rule for a generator expression, for one that a def makes -/
theorem next_bare {a : Addr} {g n : Nat} {gs : GenState} {s : Shared} {P : Nat → Shared → Shared → Prop} {Y : Protocol} {Q : Option Value → Shared → Prop} {E : Value → Shared → Prop} (hh : A.handled = none)
    (hl : s.heap.NoLimit) (hroom : A.depth < recursionLimit) (hg : s.heap.IsGen a g) (hgs : s.gens[g]? = some gs)
    (hgo : gs.Goes (model lawRow.prog w) A.in1 (fun n s₀ r s₁ => r = .ok (.ret .none) ∧ P n s₀ s₁) Y n (.send .none) (s.setGen g .running))
    (hY : ∀ v s₁ gs', gs'.bare = true → Y (n - 1) (s.setGen g .running) v s₁ (fun r' s'' => match n with
        | 0 => False
        | m + 1 => gs'.Goes (model lawRow.prog w) A.in1 (fun n s₀ r s₁ => r = .ok (.ret .none) ∧ P n s₀ s₁) Y m r' s'') → Q (some v) (s₁.setGen g gs'))
    (hP : ∀ s₁, P n (s.setGen g .running) s₁ → ∀ h', (∀ b o, s₁.heap.get? b = some o → h'.get? b = some o) → Q none { s₁.setGen g .finished with heap := h' }) :
    wpAny (model lawRow.prog w) A (pyNext (.ref a)) Q E s := by
  unfold pyNext
  refine wpAny_bind (wpAny_attempt (wpAny_callSpecial?_slot (name := Str.ofString "__next__") hg.typeIs slot_gen_next (wpAny_call_entry slot_gen_next hg.typeIs entry_gen_next ?_ (args_gen_next _))))
  show wpAny _ A.in1 (Builtin.Generator.genWake (.ref a) (.send .none)) _ _ s
  unfold Builtin.Generator.genWake
  refine wpAny_bind (wpAny_holding (wpAny_genNumber hg (wpAny_bind (wpAny_genState hgs ?_))))
  cases gs with
  | running => exact hgo.elim
  | finished => exact hgo.elim
  | _ =>
    refine wpAny_bind (wpAny_roomToWake hl hroom ?_)
    show wpAny _ A.in1 (.resume g (.send .none) [] _) _ _ s
    refine wpAny_resumeQ hgs hgo (fun x s₁ hx => ?_) (fun v s₁ gs' hb hv => ?_)
    · obtain ⟨rfl, hp⟩ := hx
      show wpAny _ A.in1 (newExc (.type "StopIteration") [] >>= _) _ _ _
      refine wpAny_bind ?_
      simp only [newExc, newTuple]
      refine wpAny_bind (wpAny_newObj_type ?_ (by size_fits))
      refine wpAny_bind (m := firstArgMember _ _) (wpAny_of_eq (a := Value.none) (by first | rfl | (simp only [firstArgMember]; rfl)) ?_)
      refine wpAny_newObj_type ?_ (by size_fits)
      simp only [raiseNew]
      refine wpAny_bind (wpAny_bind (wpAny_handled ?_))
      first | rw [show A.in1.handled = none from hh] | rw [hh]
      refine wpAny_throw ?_
      refine wpAny_bind (wpAny_isInstance (T := "StopIteration") (b := true) ⟨_, Heap.get?_push_size _ rfl, rfl⟩ isSubtype_stop ?_)
      exact wpAny_pure (hP s₁ hp _ fun b o hb => Heap.get?_push_of_some _ (Heap.get?_push_of_some _ hb))
    · exact wpAny_pure ⟨v, rfl, wpAny_pure (hY v s₁ gs' hb hv)⟩
theorem gen_ask {I a : Addr} {g n : Nat} {gs : GenState} {s : Shared} {Q : Option Value → Shared → Prop} {E : Value → Shared → Prop} (hh : A.handled = none) (hl : s.heap.NoLimit) (hroom : A.depth < recursionLimit) (hg : s.heap.IsGen a g) (hgs : s.gens[g]? = some gs)
    (hgo : GoNext w A.in1 gH Lg I row out n gs (s.setGen g .running))
    (hY : ∀ x t h tk G gs', out n = some x → (∀ b o, b ≠ Lg → b ≠ I → s.heap.get? b = some o → h.get? b = some o) → (∃ oL oI, h.get? Lg = some oL ∧ h.get? I = some oI) → G[g]? = some gs' → (AllBare s.gens → AllBare G) →
      (∀ k, n = k + 1 → ∀ s'' : Shared, s''.heap.get? Lg = h.get? Lg → s''.heap.get? I = h.get? I → s''.heap.get? row = h.get? row → (∀ b o, gH.get? b = some o → s''.heap.get? b = some o) → GoNext w A.in1 gH Lg I row out k gs' s'') →
      Q (some (.int x t)) { s with heap := h, toks := tk, gens := G })
    (hN : ∀ h tk G, out n = none → (∀ b o, b ≠ Lg → b ≠ I → s.heap.get? b = some o → h.get? b = some o) → (AllBare s.gens → AllBare G) → Q none { s with heap := h, toks := tk, gens := G }) :
    wpAny (model lawRow.prog w) A (pyNext (.ref a)) Q E s := by
  have hlt : g < s.gens.size := by
    rcases Nat.lt_or_ge g s.gens.size with h | h
    · exact h
    · rw [Array.getElem?_eq_none h] at hgs; cases hgs
  refine next_bare (P := fun n s₀ s₁ => (∀ k, n = k + 1 → out k = none) ∧ Kp Lg I s₀ s₁) hh hl hroom hg hgs hgo ?_ ?_
  · rintro v s₁ gs' hb ⟨⟨x, t, ho, rfl⟩, ⟨h, tk, rfl, hk⟩, hex, hres⟩
    refine hY x t h tk ((s.gens.setIfInBounds g .running).setIfInBounds g gs') gs' ho hk hex ?_ (fun q => bare_set (bare_set q rfl) hb) (fun k e s'' e1 e2 e3 kp => ?_)
    · rw [Array.getElem?_setIfInBounds_self_of_lt (by rw [Array.size_setIfInBounds]; exact hlt)]
    · have := hres k e s'' e1 e2 e3 kp
      subst e
      exact this
  · rintro s₁ ⟨ho, h, tk, rfl, hk⟩ h' hk'
    exact hN h' tk _ (ho n rfl) (fun b o n1 n2 e => hk' b o (hk b o n1 n2 e)) fun q => bare_set (bare_set q rfl) rfl
end
end Mine
end
section
open PySem PySem.W PyProof.Rows PySem.Calls
set_option maxRecDepth 100000
namespace Mine
section
variable {w : World} {mean : ExcName → Option Value} {mg mb : Str → Option Value} {h₀ : Heap} {L : Addr} {A : Around} {E : Value → Shared → Prop} {s : Shared} {m : Str → Option Value} {led : List (Addr × Obj)}
abbrev genOb (g : Nat) (t u : Tok) : Obj := { cls := .type "generator", data := .fields #[.int g 0, .str (Str.ofString "_grouping_intervals") t, .str (Str.ofString "_grouping_intervals") u] }
theorem call_gen {row : Addr} {Q : Value → Shared → Prop} (F : Fr h₀ L s.heap m) (N : News h₀ L s.heap led) (X : (heapK w.params).In h₀) (T : Top viewQ (looseW viewQ looseQ) mean mg mb h₀) (hroom : A.depth < recursionLimit)
    (h : ∀ Lg oL h' tk G g t u, Fr h₀ L h' m → News h₀ L h' ((Lg + 1, genOb g t u) :: (Lg, oL) :: led) → h'.Ns Lg (fun x => if x = nmG then some (.ref row) else none) → G[g]? = some (.fresh (.func (fnBody 6) (genv Lg))) → (∀ q ∈ led, @LT.lt Nat _ q.1 Lg) → @LT.lt Nat _ L Lg → (AllBare s.gens → AllBare G) →
      Q (.ref (Lg + 1)) { s with heap := h', toks := tk, gens := G }) :
    wpAny (model lawRow.prog w) A (call (.ref 42) [.ref row]) Q E s := by
  have ho : (heapK w.params).lookup 42 = some (Obj.mk (Value.type "function") none (Data.func (FuncData.mk (Str.ofString "_grouping_intervals") (Str.ofString "_grouping_intervals") (fnArgs 6) (FuncBody.stmts (fnBody 6)) (fnScope 6) 3 [] Value.none Value.none Value.none (Value.str (Str.ofString "cpy313.locale") 238) none (Value.ref 41) Value.none 0)) #[]) := by with_unfolding_all rfl
  have ho' := (X.keeps F.keep) _ _ ho
  refine wpAny_call (codeAny_call_generator (body := fnBody 6) hroom ho' rfl (by rfl) (by rfl) rfl (codeRec_of (X.keeps F.keep) (by with_unfolding_all rfl)) ?_)
  refine BindsTo.of_eq (binds := [(nmG, .ref row)]) rfl _ _ _ _ ?_
  refine wpAny_newFunctionEnv (by decide) (fun x hx => by rw [List.mem_singleton.mp hx]; rfl) (fun h1 hns hsb => ⟨(T.nolimit.keeps F.keep).fresh _ hsb, ?_⟩) (by rfl)
  have up : ∀ b o, s.heap.get? b = some o → h1.get? b = some o := fun b o e => hsb.extBut b o (Nat.ne_of_lt (Heap.lt_size e)) (Heap.get?_push_of_some _ e)
  have hsz : h1.objs.size = s.heap.objs.size + 1 := by rw [hsb.1, Heap.size_push]
  obtain ⟨oL, es, ep, hL, hLr⟩ := id hns
  have z : ∀ (o' : Obj), (h1.push o').get? (s.heap.objs.size + 1) = some o' → News h₀ L (h1.push o') ((s.heap.objs.size + 1, o') :: (s.heap.objs.size, oL) :: led) := by
    intro o' e p hp
    have fresh₀ : ∀ q, @LE.le Nat _ s.heap.objs.size q → h₀.get? q = none := fun q hq => Heap.get?_none_of_le (Nat.le_trans (Nat.le_of_lt (Nat.lt_of_le_of_lt F.above F.ns.lt)) hq)
    have hLs : @LT.lt Nat _ L s.heap.objs.size := F.ns.lt
    rcases List.mem_cons.mp hp with rfl | hp
    · exact ⟨e, Nat.ne_of_gt (Nat.lt_succ_of_lt hLs), fresh₀ _ (Nat.le_succ _)⟩
    rcases List.mem_cons.mp hp with rfl | hp
    · exact ⟨Heap.get?_push_of_some _ hL, Nat.ne_of_gt hLs, fresh₀ _ (Nat.le_refl _)⟩
    · exact ⟨Heap.get?_push_of_some _ (up _ _ (N p hp).1), (N p hp).2⟩
  have e1 : ∀ o' : Obj, o'.isFreed = false → (h1.push o').get? (s.heap.objs.size + 1) = some o' := fun o' ho => by rw [← hsz]; exact Heap.get?_push_size _ ho
  show Q (.ref h1.objs.size) _
  rw [hsz]
  refine h s.heap.objs.size oL _ _ _ s.gens.size s.toks.succ _ ((F.keeps up).push _) (z _ (e1 _ rfl)) ?_ ?_ (fun p hp => Heap.lt_size (N p hp).1) F.ns.lt fun q => AllBare.push q rfl
  · have e : (fun x => if x = nmG then some (Value.ref row) else none) = fun x => ([(nmG, Value.ref row)] : List (Str × Value)).reverse.lookup x := by
      funext x
      by_cases q : x = nmG
      · rw [if_pos q, q]; rfl
      · rw [if_neg q]
        show none = List.lookup x [(nmG, Value.ref row)]
        rw [List.lookup_cons, show (x == nmG) = false by simpa using q]
        rfl
    rw [e]
    exact hns.keeps fun b o e => Heap.get?_push_of_some _ e
  · exact Array.getElem?_push_size
end
end Mine
end
section
open PySem PySem.W PyProof.Rows PySem.Calls
set_option maxRecDepth 100000
namespace Mine
section
variable {w : World} {mean : ExcName → Option Value} {mg mb : Str → Option Value} {h₀ : Heap} {A : Around} {E : Value → Shared → Prop} {s : Shared} {m : Str → Option Value} {led : List (Addr × Obj)} {env : Env}
/-- the end of a turn -/
noncomputable def GenTurn (h₀ : Heap) (L I Lg a row : Addr) (oI oL oG oR : Obj) (rest : (Str → Option Value) → List (Addr × Obj) → Prop) (Q : Flow → Shared → Prop) (s₁ : Shared) (f : Flow) (s₂ : Shared) : Prop :=
  match f with
  | .ret v => Q (.ret v) s₂
  | .brk => Q .next s₂
  | _ => ∃ h' tk' m' led', s₂ = { s₁ with heap := h', toks := tk' } ∧ Fr h₀ L h' m' ∧ News h₀ L h' ((I, oI) :: (Lg, oL) :: led') ∧ (∀ q ∈ led', q.1 ≠ I ∧ q.1 ≠ Lg) ∧ (a, oG) ∈ led' ∧ (row, oR) ∈ led' ∧ rest m' led'
theorem GenTurn.intro {L I Lg a row : Addr} {oI oL oG oR : Obj} {rest : (Str → Option Value) → List (Addr × Obj) → Prop} {Q : Flow → Shared → Prop} {s₁ : Shared} {h' : Heap} {tk' : Nat} {m' : Str → Option Value} {all : List (Addr × Obj)} (F : Fr h₀ L h' m') (N : News h₀ L h' all) (led' : List (Addr × Obj))
    (sub : ∀ q ∈ (I, oI) :: (Lg, oL) :: led', q ∈ all) (off : ∀ q ∈ led', q.1 ≠ I ∧ q.1 ≠ Lg) (ma : (a, oG) ∈ led') (mr : (row, oR) ∈ led') (r : rest m' led') :
    GenTurn h₀ L I Lg a row oI oL oG oR rest Q s₁ .next { s₁ with heap := h', toks := tk' } := ⟨h', tk', m', led', rfl, F, fun q hq => N q (sub q hq), off, ma, mr, r⟩
theorem gen_for {x_ : Str} {px : Pos} {body : List Stmt} {Q : Flow → Shared → Prop} {Lg a row : Addr} {g : Nat} {t u : Tok} {oL : Obj} {c : Nat} {vs : List Value} {its : List Int} {mG : Str → Option Value} {out : Nat → Option Int} (Inv : Nat → (Str → Option Value) → List (Addr × Obj) → Prop)
    (hE : PassesOwn (model lawRow.prog w) A env E) (hh : A.handled = none) (hroom : A.depth < recursionLimit) (X : (heapK w.params).In h₀) (T : Top viewQ (looseW viewQ looseQ) mean mg mb h₀)
    (F : Fr h₀ env.locals s.heap m) (N : News h₀ env.locals s.heap ((Lg, oL) :: led)) (hgs : s.gens[g]? = some (.fresh (.func (fnBody 6) (genv Lg)))) (hLg : ∀ q ∈ led, q.1 ≠ Lg)
    (ma : (a, genOb g t u) ∈ led) (mr : (row, W.listOf vs.toArray c) ∈ led) (hi : IntsAre vs its) (ns : s.heap.Ns Lg mG) (hmG : mG nmG = some (.ref row)) (hne : noErr none its) (ho : ∀ k, k < 4 → out (3 - k) = (gi 4 none its)[k]?) (i0 : Inv 0 m led)
    (turn : ∀ k m led I x, Inv k m led → out (3 - k) = some x → k ≤ 3 → ∀ t' oI oL' h tk G, (AllBare s.gens → AllBare G) → (∀ q ∈ led, q.1 ≠ I ∧ q.1 ≠ Lg) → (a, genOb g t u) ∈ led → (row, W.listOf vs.toArray c) ∈ led → I ≠ Lg → Fr h₀ env.locals h m → News h₀ env.locals h ((I, oI) :: (Lg, oL') :: led) →
      wpAny (model lawRow.prog w) A (assign (.Name x_ px) env (.int x t')) (fun _ s₂ => wpAny (model lawRow.prog w) A (execs body env) (GenTurn h₀ env.locals I Lg a row oI oL' (genOb g t u) (W.listOf vs.toArray c) (fun m' led' => k < 3 ∧ Inv (k + 1) m' led') Q { s with heap := h, toks := tk, gens := G }) E s₂) E { s with heap := h, toks := tk, gens := G })
    (stop : ∀ k m led, Inv k m led → out (3 - k) = none → k ≤ 3 → ∀ h tk G, (AllBare s.gens → AllBare G) → Fr h₀ env.locals h m → News h₀ env.locals h led → Q .next { s with heap := h, toks := tk, gens := G }) :
    codeAny (model lawRow.prog w) A (.forLoop (.Name x_ px) (.ref a) body [] env) (fun r s' => match r with | .ok f => Q f s' | .error e => cameBackBy (model lawRow.prog w) A env E e s') s := by
  have hL : @LT.lt Nat _ env.locals s.heap.objs.size := F.ns.lt
  have hLs : @LT.lt Nat _ Lg s.heap.objs.size := Heap.lt_size (N _ (List.mem_cons_self ..)).1
  have hgL : h₀.get? Lg = none := (N _ (List.mem_cons_self ..)).2.2
  have hgI : h₀.get? s.heap.objs.size = none := Heap.get?_none_of_le (Nat.le_of_lt (Nat.lt_of_le_of_lt F.above F.ns.lt))
  have hLL : Lg ≠ env.locals := (N _ (List.mem_cons_self ..)).2.1
  have hledI : ∀ q ∈ led, q.1 ≠ s.heap.objs.size := fun q hq => Nat.ne_of_lt (Heap.lt_size (N q (List.mem_cons_of_mem _ hq)).1)
  have hIL : s.heap.objs.size ≠ env.locals := Nat.ne_of_gt hL
  have keepS : ∀ {h h' : Heap} {m : Str → Option Value} {l : List (Addr × Obj)}, Fr h₀ env.locals h m → News h₀ env.locals h l → (∀ q ∈ l, q.1 ≠ s.heap.objs.size ∧ q.1 ≠ Lg) → (∀ b o, b ≠ Lg → b ≠ s.heap.objs.size → h.get? b = some o → h'.get? b = some o) → Fr h₀ env.locals h' m ∧ News h₀ env.locals h' l := fun {h h' m l} F N off hk =>
    ⟨⟨F.ns.at' fun o e => hk _ o (Ne.symm hLL) (Ne.symm hIL) e, fun b o e => hk b o (fun q => by subst q; rw [hgL] at e; cases e) (fun q => by subst q; rw [hgI] at e; cases e) (F.keep b o e), F.above⟩,
     fun q hq => ⟨hk _ _ (off q hq).2 (off q hq).1 (N q hq).1, (N q hq).2⟩⟩
  have gen_of : ∀ {h : Heap} {l : List (Addr × Obj)}, News h₀ env.locals h l → (a, genOb g t u) ∈ l → h.IsGen a g := fun N hm => ⟨_, _, _, (N _ hm).1, rfl, rfl, rfl⟩
  refine codeAny_forLoop (I := fun n s' => ∃ k m led gs h tk G, n = 4 - k ∧ k ≤ 3 ∧ s' = { s with heap := h, toks := tk, gens := G } ∧ (AllBare s.gens → AllBare G) ∧ Fr h₀ env.locals h m ∧ News h₀ env.locals h led ∧ Inv k m led ∧ (∀ q ∈ led, q.1 ≠ s.heap.objs.size ∧ q.1 ≠ Lg) ∧
      (a, genOb g t u) ∈ led ∧ (row, W.listOf vs.toArray c) ∈ led ∧ G[g]? = some gs ∧ GoNext w A.in1 h₀ Lg s.heap.objs.size row out (3 - k) gs ((({ s with heap := h, toks := tk, gens := G } : Shared)).setGen g .running)) ?_ 4
    ⟨0, m, led, _, s.heap, s.toks, s.gens, rfl, Nat.zero_le _, rfl, id, F, (fun q hq => N q (List.mem_cons_of_mem _ hq)), i0, fun q hq => ⟨hledI q hq, hLg q hq⟩, ma, mr, hgs, ?_⟩
  · rintro n s' ⟨k, m, led, gs, h, tk, G, rfl, hk3, rfl, bG, F, N, inv, off, ma, mr, hG, go⟩
    refine gen_ask (g := g) (gs := gs) hh (T.nolimit.keeps F.keep) hroom (gen_of N ma) hG go ?_ ?_
    · intro x t' h' tk' G' gs' hx hk ⟨oL', oI, eL, eI⟩ hG' bG' res
      obtain ⟨F', N'⟩ := keepS F N off hk
      have N'' : News h₀ env.locals h' ((s.heap.objs.size, oI) :: (Lg, oL') :: led) := fun q hq => by
        rcases List.mem_cons.mp hq with rfl | hq
        · exact ⟨eI, hIL, hgI⟩
        rcases List.mem_cons.mp hq with rfl | hq
        · exact ⟨eL, hLL, hgL⟩
        · exact N' q hq
      have tr := turn k m led s.heap.objs.size x inv hx hk3 t' oI oL' h' tk' G' (fun q => bG' (bG q)) off ma mr (Nat.ne_of_gt hLs) F' N''
      refine wpAny_mono (wpAny_passesOwn hE (wpAny_mono tr (fun _ s₂ h₂ => wpAny_passesOwn hE h₂) fun _ _ e => e)) (fun _ s₂ h₂ => wpAny_mono h₂ (fun f s₃ p => ?_) fun _ _ e => e) fun _ _ e => e
      have fin : (∃ h₂ tk₂ m' led', s₃ = { ({ s with heap := h', toks := tk', gens := G' } : Shared) with heap := h₂, toks := tk₂ } ∧ Fr h₀ env.locals h₂ m' ∧ News h₀ env.locals h₂ ((s.heap.objs.size, oI) :: (Lg, oL') :: led') ∧ (∀ q ∈ led', q.1 ≠ s.heap.objs.size ∧ q.1 ≠ Lg) ∧ (a, genOb g t u) ∈ led' ∧ (row, W.listOf vs.toArray c) ∈ led' ∧ k < 3 ∧ Inv (k + 1) m' led') →
          ∃ n', n' < 4 - k ∧ ∃ k m led gs h tk G, n' = 4 - k ∧ k ≤ 3 ∧ s₃ = { s with heap := h, toks := tk, gens := G } ∧ (AllBare s.gens → AllBare G) ∧ Fr h₀ env.locals h m ∧ News h₀ env.locals h led ∧ Inv k m led ∧ (∀ q ∈ led, q.1 ≠ s.heap.objs.size ∧ q.1 ≠ Lg) ∧
            (a, genOb g t u) ∈ led ∧ (row, W.listOf vs.toArray c) ∈ led ∧ G[g]? = some gs ∧ GoNext w A.in1 h₀ Lg s.heap.objs.size row out (3 - k) gs ((({ s with heap := h, toks := tk, gens := G } : Shared)).setGen g .running) := by
        rintro ⟨h₂, tk₂, m', led', rfl, F₂, N₂, off₂, ma₂, mr₂, hk, inv₂⟩
        refine ⟨4 - (k + 1), by lia, k + 1, m', led', gs', h₂, tk₂, G', rfl, by lia, rfl, (fun q => bG' (bG q)), F₂, (fun q hq => N₂ q (List.mem_cons_of_mem _ (List.mem_cons_of_mem _ hq))), inv₂, off₂, ma₂, mr₂, hG', ?_⟩
        refine res (3 - (k + 1)) (by lia) _ ?_ ?_ ?_ F₂.keep
        · exact (N₂ _ (List.mem_cons_of_mem _ (List.mem_cons_self ..))).1.trans eL.symm
        · exact (N₂ _ (List.mem_cons_self ..)).1.trans eI.symm
        · exact (N₂ _ (List.mem_cons_of_mem _ (List.mem_cons_of_mem _ mr₂))).1.trans (N' _ mr).1.symm
      cases f with
      | ret v => exact p
      | brk => exact p
      | next => exact fin p
      | cont => exact fin p
    · intro h' tk' G' hx hk bG'
      obtain ⟨F', N'⟩ := keepS F N off hk
      exact wpAny_execs_nil (stop k m led inv hx hk3 h' tk' G' (fun q => bG' (bG q)) F' N')
  · refine gen_start (s := s.setGen g .running) (m := mG) (vs := vs) (its := its) hh X T (hLg _ mr) hgL hgI ns hmG hi (News.isList N (List.mem_cons_of_mem _ mr)) F.keep hne ho
end
end Mine
end
section
open PySem PySem.W PyProof.Rows PySem.Calls
set_option maxRecDepth 100000
namespace Mine
/-- four floats of whole numbers, put in order -/
noncomputable def SF (ns : List Int) (vs : List Value) : Prop := ∃ x y z u r0 r1 r2 r3, vs = [.float (FI x) r0, .float (FI y) r1, .float (FI z) r2, .float (FI u) r3] ∧ [x, y, z, u].Perm ns ∧ (x ≤ y ∧ y ≤ z ∧ z ≤ u) ∧ (0 ≤ x ∧ x ≤ 60) ∧ (0 ≤ y ∧ y ≤ 60) ∧ (0 ≤ z ∧ z ≤ 60) ∧ (0 ≤ u ∧ u ≤ 60)
theorem SF.len {ns : List Int} {vs : List Value} (h : SF ns vs) : vs.length = 4 := by
  obtain ⟨x, y, z, u, r0, r1, r2, r3, e, -⟩ := h
  rw [e]; rfl
theorem poSF {a b c d : List Int} {X1 U1 X2 U2 : List Value} (h1 : SF a X1) (h2 : SF b U1) (h3 : SF c X2) (h4 : SF d U2) (hT : Dom a c) (hL : Dom b d) : PO (zipItems (X1 ++ U1) (X2 ++ U2)) := by
  obtain ⟨x, y, z, u, r0, r1, r2, r3, e1, p1, o1, bx, b_y, bz, bu⟩ := h1
  obtain ⟨x', y', z', u', r0', r1', r2', r3', e3, p3, o3, bx', b_y', bz', bu'⟩ := h3
  have d1 := hT _ _ _ _ _ _ _ _ p1 o1 p3 o3
  clear p1 o1 p3 o3 hT
  have k : ∀ {R S : List Value}, PO (zipItems R S) → PO (zipItems (X1 ++ R) (X2 ++ S)) := fun h => by
    rw [e1, e3]
    exact .cons bx bx' d1.1 (.cons b_y b_y' d1.2.1 (.cons bz bz' d1.2.2.1 (.cons bu bu' d1.2.2.2 h)))
  refine k ?_
  clear k e1 e3
  obtain ⟨x, y, z, u, r0, r1, r2, r3, e2, p1, o1, bx, b_y, bz, bu⟩ := h2
  obtain ⟨x', y', z', u', r0', r1', r2', r3', e4, p3, o3, bx', b_y', bz', bu'⟩ := h4
  have d1 := hL _ _ _ _ _ _ _ _ p1 o1 p3 o3
  rw [e2, e4]
  exact .cons bx bx' d1.1 (.cons b_y b_y' d1.2.1 (.cons bz bz' d1.2.2.1 (.cons bu bu' d1.2.2.2 .nil)))
section
variable {prog : Program} {w : World} {A : Around} {E : Value → Shared → Prop} {s : Shared} {h₀ : Heap} {L l l' : Addr} {m : Str → Option Value} {env : Env} {news : List (Addr × Obj)}
theorem sortedP {a b c d : Int} {t0 t1 t2 t3 : Tok} {Q : Value → Shared → Prop} (hb : ∀ n ∈ [a, b, c, d], 0 ≤ n ∧ n ≤ 60) (F : Fr h₀ L s.heap m) (N : News h₀ L s.heap news) (hm : (l, LCg.lst [.float (FI a) t0, .float (FI b) t1, .float (FI c) t2, .float (FI d) t3]) ∈ news)
    (h : ∀ D vs k h', Fr h₀ L h' m → News h₀ L h' ((D, W.listOf vs.toArray k) :: news) → SF [a, b, c, d] vs → Q (.ref D) { s with heap := h' }) :
    wpAny (model prog w) A (call (.builtin "sorted") [.ref l]) Q E s :=
  sorted_fi (hb a (.head _)) (hb b (.tail _ (.head _))) (hb c (.tail _ (.tail _ (.head _)))) (hb d (.tail _ (.tail _ (.tail _ (.head _))))) F N (News.isList N hm)
    fun D x y z u r0 r1 r2 r3 k h' F' N' _ p o g0 g1 g2 g3 => h D _ k h' F' N' ⟨x, y, z, u, r0, r1, r2, r3, rfl, p, o, g0, g1, g2, g3⟩
/-- two such lists, one behind the other; the two go -/
theorem addP {a b : List Int} {vs us : List Value} {k k' : Nat} {K : List (Addr × Obj)} {Q : Value → Shared → Prop} (h1 : SF a vs) (h2 : SF b us) (F : Fr h₀ L s.heap m) (N : News h₀ L s.heap ((l', W.listOf us.toArray k') :: (l, W.listOf vs.toArray k) :: K))
    (h : ∀ D h', Fr h₀ L h' m → News h₀ L h' ((D, W.listOf (vs ++ us).toArray 0) :: K) → Q (.ref D) { s with heap := h' }) :
    wpAny (model prog w) A (binaryOp .Add (.ref l) (.ref l')) Q E s :=
  kmk_add_lit F N (News.isList N (.tail _ (.head _))) (News.isList N (.head _)) (zs := vs ++ us) (by rw [List.toList_toArray, List.toList_toArray]) (fun D h' F' N' _ => h D h' F' (News.less N' fun q hq => (List.mem_cons.mp hq).elim (fun e => List.mem_cons.mpr (.inl e)) fun h => .tail _ (.tail _ (.tail _ h))))
    (by rw [List.toList_toArray, List.toList_toArray, h1.len, h2.len, sizeLine_eq]; exact by decide)
/-- ints put in order, the greatest first -/
theorem revP {vs : List Value} {ns : List Int} {Q : Value → Shared → Prop} (F : Fr h₀ L s.heap m) (N : News h₀ L s.heap news) (hm : (l, LCg.lst vs) ∈ news) (hi : IntsAre vs ns) (h64 : ns.length < 64)
    (h : ∀ D vs' ns' c h', Fr h₀ L h' m → News h₀ L h' ((D, W.listOf (List.toArray vs') c) :: news) → (∀ q ∈ news, q.1 < D) → IntsAre vs' ns' → ns'.Perm ns → List.Pairwise (fun x y => y ≤ x) ns' → Q (.ref D) { s with heap := h' }) :
    wpAny (model prog w) A (call (.builtin "sorted") [.ref l] [(Str.ofString "reverse", .bool true)]) Q E s :=
  ksk_rev F N (News.isList N hm) hi h64 fun D vs' ns' c h' F' N' l1 i' _ p' o' _ => h D vs' ns' c h' F' N' l1 i' p' o'
/-- the front of a list of ints -/
theorem sliceI {value slice : PySem.Expr} {vs : List Value} {ns : List Int} {c : Nat} {a : Int} {u : Tok} {Q : Value → Shared → Prop} (F : Fr h₀ L s.heap m) (N : News h₀ L s.heap news) (hm : (l, W.listOf vs.toArray c) ∈ news) (hi : IntsAre vs ns) (h0 : 0 ≤ a) (hz : vs.length ≤ 8)
    (h : ∀ D ws h', Fr h₀ L h' m → News h₀ L h' ((D, W.listOf (List.toArray ws) 0) :: news) → IntsAre ws (ns.take a.toNat) → Q (.ref D) { s with heap := h' })
    (hs : subscripted slice false (.ref l) (.ref s.heap.objs.size) = operate [.ref s.heap.objs.size, .ref l] (getItem (.ref l) (.ref s.heap.objs.size))) (ht : ∀ r, letTemporaryGo value (.ref l) r = pure ()) :
    wpAny (model prog w) A (subscriptTail value slice (.ref l) (.ref s.heap.objs.size)) Q E { s with heap := s.heap.push { cls := .type "slice", data := .fields #[.none, .int a u, .none] } } :=
  kmk_slice_ints F N (News.isList N hm) .none (.int a u) hi (kmk_upto hi h0) rfl (fun D ws h' F' N' _ hw _ _ => h D ws h' F' N' hw) hs ht (by rw [List.size_toArray, sizeLine_eq]; exact Nat.le_trans hz (by decide))
/-- a loop over a range by one lemma for a turn -/
theorem range_inv {x : Str} {body : List Stmt} {Q : Flow → Shared → Prop} {I : Addr} {a : Int} {n : Nat} (Inv : Nat → (Str → Option Value) → List (Addr × Obj) → Prop)
    (turn : ∀ i m news t h tk, i < n → Inv i m news → Fr h₀ env.locals h (fun y => if y = x then some (.int (a + (i : Int)) t) else m y) →
      News h₀ env.locals h ((I, itR (a + ((i + 1 : Nat) : Int)) ((n : Int) - ((i + 1 : Nat) : Int))) :: news) →
      wpAny (model prog w) A (execs body env) (UnrPost h₀ env.locals { s with heap := h, toks := tk } I (itR (a + ((i + 1 : Nat) : Int)) ((n : Int) - ((i + 1 : Nat) : Int))) (fun m' news' => Inv (i + 1) m' news') Q) E { s with heap := h, toks := tk })
    (fin : ∀ m news, Inv n m news → ∀ h tk, Fr h₀ env.locals h m → News h₀ env.locals h news → Q .next { s with heap := h, toks := tk }) :
    ∀ (k i : Nat) (m : Str → Option Value) (news : List (Addr × Obj)), i + k = n → Inv i m news → RangeRest prog w A E h₀ env x body Q s I a n k i m news
  | 0, i, m, news, e, hI => RangeRest.zero (fin m news ((show i = n from e) ▸ hI))
  | k + 1, i, m, news, e, hI => RangeRest.succ fun t h tk F N => by
    refine wpAny_mono (turn i m news t h tk (by lia) hI F N) (fun f s₂ p => ?_) fun _ _ e => e
    have key : UnrEnd h₀ env.locals { s with heap := h, toks := tk } I (itR (a + ((i + 1 : Nat) : Int)) ((n : Int) - ((i + 1 : Nat) : Int))) (fun m' news' => Inv (i + 1) m' news') s₂ →
        UnrEnd h₀ env.locals { s with heap := h, toks := tk } I (itR (a + ((i + 1 : Nat) : Int)) ((n : Int) - ((i + 1 : Nat) : Int))) (RangeRest prog w A E h₀ env x body Q s I a n k (i + 1)) s₂ := by
      rintro ⟨h', tk', m', n', e', F', N', o, i'⟩
      exact ⟨h', tk', m', n', e', F', N', o, range_inv Inv turn fin k (i + 1) m' n' (by lia) i'⟩
    cases f with
    | ret v => exact p
    | brk => exact p
    | next => exact key p
    | cont => exact key p
end
theorem bdP {p0 p1 p2 p3 q0 q1 q2 q3 : Lamp} (h : ∀ l ∈ [p0, p1, p2, p3, q0, q1, q2, q3], (0 ≤ mx l ∧ mx l ≤ 60) ∧ (0 ≤ mn l ∧ mn l ≤ 60)) :
    (∀ n ∈ [mx p0, mx p1, mx p2, mx p3], 0 ≤ n ∧ n ≤ 60) ∧ (∀ n ∈ [mn p0, mn p1, mn p2, mn p3], 0 ≤ n ∧ n ≤ 60) ∧ (∀ n ∈ [mx q0, mx q1, mx q2, mx q3], 0 ≤ n ∧ n ≤ 60) ∧ (∀ n ∈ [mn q0, mn q1, mn q2, mn q3], 0 ≤ n ∧ n ≤ 60) := by
  simp only [List.forall_mem_cons] at h
  obtain ⟨h0, h1, h2, h3, h4, h5, h6, h7, -⟩ := h
  simp only [List.forall_mem_cons]
  exact ⟨⟨h0.1, h1.1, h2.1, h3.1, List.forall_mem_nil _⟩, ⟨h0.2, h1.2, h2.2, h3.2, List.forall_mem_nil _⟩, ⟨h4.1, h5.1, h6.1, h7.1, List.forall_mem_nil _⟩, ⟨h4.2, h5.2, h6.2, h7.2, List.forall_mem_nil _⟩⟩
theorem zip_off {i : Addr} {o1 o2 o3 o4 o5 : Obj} {kl : List (Addr × Obj)} (h : ∀ p ∈ kl, p.1 < i) (p : Addr × Obj) (hp : p ∈ kl) (q : Addr × Obj) (hq : q ∈ [(i + 4, o1), (i + 2, o2), (i + 3, o3), (i, o4), (i + 1, o5)]) : p.1 ≠ q.1 := by
  have h1 : @LT.lt Nat _ p.1 i := h p hp
  have h2 : @LE.le Nat _ i q.1 := by
    simp only [List.mem_cons, List.not_mem_nil, or_false] at hq
    rcases hq with e | e | e | e | e <;> rw [e]
    · exact Nat.le_add_right _ _
    · exact Nat.le_add_right _ _
    · exact Nat.le_add_right _ _
    · exact Nat.le_refl _
    · exact Nat.le_add_right _ _
  exact Nat.ne_of_lt (Nat.lt_of_lt_of_le h1 h2)
theorem cnt0 (i : Nat) : (0 : Int) ≤ 1 + i := by lia
theorem endU2 {h₀ : Heap} {L I : Addr} {it : Obj} {rest : (Str → Option Value) → List (Addr × Obj) → Prop} {s₁ : Shared} {h' : Heap} {tk : Nat} {m' : Str → Option Value} {x1 x2 : Addr × Obj} {r : List (Addr × Obj)} (F : Fr h₀ L h' m') (N : News h₀ L h' (x1 :: x2 :: (I, it) :: r)) (off : ∀ p ∈ r, p.1 < I) (hr : rest m' r) : UnrEnd h₀ L s₁ I it rest { s₁ with heap := h', toks := tk } :=
  endU3 F N (fun p hp => Nat.ne_of_lt (off p hp)) hr
end Mine
end
section
open PySem PySem.W PyProof.Rows PySem.Calls
local macro_rules | `(tactic| k_ne) => `(tactic| (refine neN ?_; (try dsimp only); first | exact Mine.NeA.l (by with_reducible assumption) | exact Mine.NeA.r (by with_reducible assumption) | exact Mine.ApN.l (by with_reducible assumption) (by repeat (first | exact List.mem_cons_self .. | apply List.mem_cons_of_mem)) | exact Mine.ApN.r (by with_reducible assumption) (by repeat (first | exact List.mem_cons_self .. | apply List.mem_cons_of_mem)) | lia))
section
open PySem PySem.W PyProof.Rows PySem.Calls
local macro_rules | `(tactic| k_mem) => `(tactic| ((repeat (first | with_reducible assumption | with_reducible exact List.mem_cons_self .. | apply List.mem_cons_of_mem)); done))
section
open PySem PySem.W PyProof.Rows PySem.Calls
local macro_rules | `(tactic| k_all) => `(tactic| first | exact List.forall_mem_nil _ | with_reducible assumption | (refine' List.forall_mem_cons.mpr ⟨?a, ?b⟩; (case a => k_ne); (case b => k_all)))
section
open PySem PySem.W PyProof.Rows PySem.Calls
set_option maxRecDepth 100000
set_option maxHeartbeats 0
set_option linter.unusedVariables false
namespace Mine
/-- the running sums -/
noncomputable def run : Int → List Int → List Int
  | _, [] => []
  | a, x :: r => (a + x) :: run (a + x) r
theorem run_snoc : ∀ (l : List Int) (a x : Int), run a (l ++ [x]) = run a l ++ [a + l.sum + x]
  | [], a, x => by simp [run]
  | y :: r, a, x => by
    show (a + y) :: run (a + y) (r ++ [x]) = (a + y) :: (run (a + y) r ++ [_])
    rw [run_snoc r (a + y) x, List.sum_cons, Int.add_assoc a y]
theorem ints_snoc {x : Int} {t : Tok} : ∀ {vs : List Value} {ns : List Int}, IntsAre vs ns → IntsAre (vs ++ [.int x t]) (ns ++ [x])
  | _, _, .nil => .cons x t .nil
  | _, _, .cons y u h => .cons y u (ints_snoc h)
theorem gi_len : ∀ (n : Nat) (last : Option Int) (r : List Int), (gi n last r).length ≤ n
  | 0, _, _ => Nat.le_refl _
  | n + 1, _, [] => Nat.zero_le _
  | n + 1, last, x :: r => by
    show (if x = 127 then [] else if x = 0 then (match last with | some l => List.replicate (n + 1) l | none => []) else x :: gi n (some x) r).length ≤ n + 1
    split
    · exact Nat.zero_le _
    · split
      · cases last with
        | none => exact Nat.zero_le _
        | some l => rw [List.length_replicate]; exact Nat.le_refl _
      · rw [List.length_cons]
        exact Nat.succ_le_succ (gi_len n _ r)
theorem take_at {l : List Int} {k : Nat} {x : Int} (h : l[k]? = some x) : l.take (k + 1) = l.take k ++ [x] := by
  rw [List.take_add_one, h]; rfl
theorem len_cases {ys : List Value} {k : Nat} (h : ys.length = k) (hk : k ≤ 3) : (k = 0 ∧ ys = []) ∨ (k = 1 ∧ ∃ a, ys = [a]) ∨ (k = 2 ∧ ∃ a b, ys = [a, b]) ∨ (k = 3 ∧ ∃ a b c, ys = [a, b, c]) := by
  match ys, h with
  | [], h => exact .inl ⟨h.symm, rfl⟩
  | [a], h => exact .inr (.inl ⟨h.symm, a, rfl⟩)
  | [a, b], h => exact .inr (.inr (.inl ⟨h.symm, a, b, rfl⟩))
  | [a, b, c], h => exact .inr (.inr (.inr ⟨h.symm, a, b, c, rfl⟩))
  | _ :: _ :: _ :: _ :: r, h => exact absurd h (by simp; lia)
noncomputable def mkI (D : Addr) (kl : List (Addr × Obj)) (os : List Int) (k : Nat) (m : Str → Option Value) (led : List (Addr × Obj)) : Prop :=
  ∃ ys acc t, led = (D, LCg.lst ys) :: kl ∧ m (Str.ofString "marks") = some (.ref D) ∧ m (Str.ofString "mark") = some (.int acc t) ∧ acc = (os.take k).sum ∧ IntsAre ys (run 0 (os.take k)) ∧ ys.length = k
theorem marks_loop (w : World) {mean : ExcName → Option Value} {mg mb : Str → Option Value} (dp un : Nat) (gd : Option (List Code)) (cn : Str) (cs : Scope) (L a : Addr) (ccd : Value) (cl : List (Str × Addr)) (outer : List Env) (gH : Heap) (L' : Addr) (m : Str → Option Value) (s : Shared) (Q : Flow → Shared → Prop) (E : Value → Shared → Prop) (kl : List (Addr × Obj))
    (D Lg row : Addr) (g c : Nat) (t u t0 : Tok) (oL : Obj) (vs : List Value) (its : List Int) (mG : Str → Option Value)
    (hE : PassesOwn (model lawRow.prog w) ((ktrTop dp un gd cn cs L a ccd cl outer).deeper (envOf (Str.ofString "_law_marks") (fnScope 15) L' 123 (Value.ref 122))) (envOf (Str.ofString "_law_marks") (fnScope 15) L' 123 (Value.ref 122)) E)
    (F' : Fr gH L' s.heap m) (N' : News gH L' s.heap ((Lg, oL) :: (D, LCg.lst []) :: kl)) (X' : (heapK w.params).In gH) (T' : Top viewQ (looseW viewQ looseQ) mean mg mb gH) (hd : dp + 20 < recursionLimit) (hu : un + 80 < cLine)
    (hm1 : m (Str.ofString "marks") = some (.ref D)) (hm2 : m (Str.ofString "mark") = some (.int 0 t0)) (hgs : s.gens[g]? = some (.fresh (.func (fnBody 6) (genv Lg)))) (hLg : ∀ q ∈ kl, q.1 ≠ Lg) (hDL : D ≠ Lg) (hD : ∀ q ∈ kl, q.1 ≠ D)
    (ma : (Lg + 1, genOb g t u) ∈ kl) (mr : (row, W.listOf vs.toArray c) ∈ kl) (hi : IntsAre vs its) (ns : s.heap.Ns Lg mG) (hmG : mG nmG = some (.ref row)) (hne : noErr none its)
    (hpost : ∀ h tk G m' ys, Fr gH L' h m' → m' (Str.ofString "marks") = some (.ref D) → News gH L' h ((D, LCg.lst ys) :: kl) → IntsAre ys (run 0 (gi 4 none its)) → (AllBare s.gens → AllBare G) → Q .next { s with heap := h, toks := tk, gens := G }) :
    codeAny (model lawRow.prog w) ((ktrTop dp un gd cn cs L a ccd cl outer).deeper (envOf (Str.ofString "_law_marks") (fnScope 15) L' 123 (Value.ref 122))) (.forLoop (.Name (Str.ofString "size") ⟨83, 8, 83, 12⟩) (.ref (Lg + 1))
      [.AugAssign (.Name (Str.ofString "mark") ⟨84, 8, 84, 12⟩) .Add (.Name (Str.ofString "size") ⟨84, 16, 84, 20⟩) ⟨84, 8, 84, 20⟩,
       .Expr (.Call (.Attribute (.Name (Str.ofString "marks") ⟨85, 8, 85, 13⟩) (Str.ofString "append") ⟨85, 8, 85, 20⟩) [.Name (Str.ofString "mark") ⟨85, 21, 85, 25⟩] [] ⟨85, 8, 85, 26⟩) ⟨85, 8, 85, 26⟩,
       .If (.Compare (.Call (.Name (Str.ofString "len") ⟨86, 11, 86, 14⟩) [.Name (Str.ofString "marks") ⟨86, 15, 86, 20⟩] [] ⟨86, 11, 86, 21⟩) [.Eq] [.Constant (.int 4) 0 ⟨86, 25, 86, 26⟩] ⟨86, 11, 86, 26⟩) [.Break ⟨87, 12, 87, 17⟩] [] ⟨86, 8, 87, 17⟩] [] (envOf (Str.ofString "_law_marks") (fnScope 15) L' 123 (Value.ref 122)))
      (fun r s' => match r with | .ok f => Q f s' | .error e => cameBackBy (model lawRow.prog w) ((ktrTop dp un gd cn cs L a ccd cl outer).deeper (envOf (Str.ofString "_law_marks") (fnScope 15) L' 123 (Value.ref 122))) (envOf (Str.ofString "_law_marks") (fnScope 15) L' 123 (Value.ref 122)) E e s') s := by
  revert X' hgs; k_fill; intro X' hgs
  refine gen_for (Lg := Lg) (a := Lg + 1) (row := row) (g := g) (t := t) (u := u) (oL := oL) (c := c) (vs := vs) (its := its) (mG := mG) (out := fun j => (gi 4 none its)[3 - j]?) (m := m) (led := (D, LCg.lst []) :: kl) (mkI D kl (gi 4 none its)) hE (by with_unfolding_all rfl) (by k_room) X' T' F' N' hgs ?_ (List.mem_cons_of_mem _ ma) (List.mem_cons_of_mem _ mr) hi ns hmG hne ?_ ?_ ?_ ?_
  · intro q hq
    rcases List.mem_cons.mp hq with rfl | hq
    · exact hDL
    · exact hLg q hq
  · intro k hk
    show (gi 4 none its)[3 - (3 - k)]? = _
    rw [show 3 - (3 - k) = k by lia]
  · exact ⟨[], 0, t0, rfl, hm1, hm2, rfl, .nil, rfl⟩
  · clear N' F' hm1 hm2 hgs
    rintro k m1 led I x ⟨ys, acc, ta, rfl, hm1, hm2, hacc, hys, hlen⟩ hx hk3 t' oI oL' h tk G bG off ma' mr' hIL F N
    have hx' : (gi 4 none its)[k]? = some x := by
      have h9 : (gi 4 none its)[3 - (3 - k)]? = some x := hx
      rwa [show 3 - (3 - k) = k by lia] at h9
    have htk := take_at hx'
    have nID : NeA I D := fun e => (off (D, LCg.lst ys) (List.mem_cons_self ..)).1 e.symm
    have nLD : NeA Lg D := fun e => (off (D, LCg.lst ys) (List.mem_cons_self ..)).2 e.symm
    have nIL : NeA I Lg := hIL
    have hfin : ∀ tf, IntsAre (ys ++ [.int (acc + x) tf]) (run 0 ((gi 4 none its).take (k + 1))) := fun tf => by
      rw [htk, run_snoc, hacc, Int.zero_add]
      exact ints_snoc hys
    have hsum : acc + x = ((gi 4 none its).take (k + 1)).sum := by rw [htk, List.sum_append, hacc]; simp
    have hkI : ∀ q ∈ kl, q.1 ≠ I ∧ q.1 ≠ Lg := fun q hq => off q (List.mem_cons_of_mem _ hq)
    rw [know2 hm1 hm2] at F
    clear hx hx' htk hys hacc hm1 hm2 off ma' mr'
    rcases len_cases hlen hk3 with ⟨rfl, rfl⟩ | ⟨rfl, y0, rfl⟩ | ⟨rfl, y0, y1, rfl⟩ | ⟨rfl, y0, y1, y2, rfl⟩
    iterate 3
      · skip
        (repeat' (first | (k_unfold; (try dsimp only)) | (with_reducible ((k_here; (with_reducible show wpAny _ _ (call (Value.builtin _) [Value.ref _, _]) _ _ _); (refine' append_L ?k1 ?k2 ?k3 ?k4 ?_; (case k1 => k_asm); (case k2 => k_asm); (case k3 => k_upd); (case k4 => decide); k_whole); intro _ _ _; (try k_sweep)))) | (with_reducible ((k_here; (with_reducible show wpAny _ _ (call (Value.builtin _) [Value.ref _]) _ _ _); k_dflt (first | (refine' len_Lk 1 ?lkN ?lkm ?lkz ?lky ?_; (case lkN => k_asm); (case lkm => k_mem); (case lkz => rfl); (case lky => decide)) | (refine' len_Lk 2 ?lkN ?lkm ?lkz ?lky ?_; (case lkN => k_asm); (case lkm => k_mem); (case lkz => rfl); (case lky => decide)) | (refine' len_Lk 3 ?lkN ?lkm ?lkz ?lky ?_; (case lkN => k_asm); (case lkm => k_mem); (case lkz => rfl); (case lky => decide)) | (refine' len_Lk 4 ?lkN ?lkm ?lkz ?lky ?_; (case lkN => k_asm); (case lkm => k_mem); (case lkz => rfl); (case lky => decide)))))) | ((with_reducible show GenTurn _ _ _ _ _ _ _ _ _ _ _ _ _ _ _); with_reducible ((refine Stop.mk ?_))) | ((with_reducible show wpAny _ _ (execs [] _) _ _ _); with_reducible (refine wpAny_execs_nil ?_)) | walk1 | (dsimp only; walk1) | (leave1; walk_say "STEP leave1"; (try dsimp only)) | fail "no step"))
        unfold Stop
        rename Fr _ _ _ _ => F9
        rename News _ _ _ _ => N9
        refine GenTurn.intro F9 N9 ((D, LCg.lst _) :: kl) (fun q hq => hq) ?_ (List.mem_cons_of_mem _ ma) (List.mem_cons_of_mem _ mr) ⟨by lia, _, acc + x, _, rfl, by with_unfolding_all rfl, by with_unfolding_all rfl, hsum, hfin _, rfl⟩
        intro q hq
        rcases List.mem_cons.mp hq with rfl | hq
        · exact ⟨fun e => nID e.symm, fun e => nLD e.symm⟩
        · exact hkI q hq
    · skip
      (repeat' (first | (k_unfold; (try dsimp only)) | (with_reducible ((k_here; (with_reducible show wpAny _ _ (call (Value.builtin _) [Value.ref _]) _ _ _); k_dflt (first | (refine' len_Lk 1 ?lkN ?lkm ?lkz ?lky ?_; (case lkN => k_asm); (case lkm => k_mem); (case lkz => rfl); (case lky => decide)) | (refine' len_Lk 2 ?lkN ?lkm ?lkz ?lky ?_; (case lkN => k_asm); (case lkm => k_mem); (case lkz => rfl); (case lky => decide)) | (refine' len_Lk 3 ?lkN ?lkm ?lkz ?lky ?_; (case lkN => k_asm); (case lkm => k_mem); (case lkz => rfl); (case lky => decide)) | (refine' len_Lk 4 ?lkN ?lkm ?lkz ?lky ?_; (case lkN => k_asm); (case lkm => k_mem); (case lkz => rfl); (case lky => decide)))))) | ((with_reducible show GenTurn _ _ _ _ _ _ _ _ _ _ _ _ _ _ _); with_reducible ((refine Stop.mk ?_))) | walk1 | (dsimp only; walk1) | (leave1; walk_say "STEP leave1"; (try dsimp only)) | fail "no step"))
      unfold Stop
      rename Fr _ _ _ _ => F9
      rename News _ _ _ _ => N9
      refine hpost _ _ _ _ _ F9 (by with_unfolding_all rfl) (News.less N9 fun q hq => List.mem_cons_of_mem _ (List.mem_cons_of_mem _ hq)) ?_ bG
      have h9 := hfin
      rw [List.take_of_length_le (gi_len 4 none its)] at h9
      exact h9 _
  · rintro k m1 led ⟨ys, acc, ta, rfl, hm1, hm2, hacc, hys, hlen⟩ hx hk3 h tk G bG F N
    have hx' : (gi 4 none its)[3 - (3 - k)]? = none := hx
    rw [show 3 - (3 - k) = k by lia, List.getElem?_eq_none_iff] at hx'
    rw [List.take_of_length_le hx'] at hys
    exact hpost h tk G m1 ys F hm1 N hys bG
end Mine
end
section
open PySem PySem.W PyProof.Rows PySem.Calls
set_option maxRecDepth 100000
set_option maxHeartbeats 0
set_option linter.unusedVariables false
namespace Mine
/-- one part of a lamp's tint -/
noncomputable def pt (i : Nat) (l : Lamp) : Int := [lum l, warm l, cool l].getD (0 + (i : Int)).toNat 0
theorem pt_get {p0 p1 p2 p3 l : Lamp} {i j : Nat} (h : [p0, p1, p2, p3][j]? = some l) : ([p0, p1, p2, p3].map (pt i)).getD j 0 = [lum l, warm l, cool l].getD (0 + (i : Int)).toNat 0 := by
  rw [List.getD_eq_getElem?_getD, List.getElem?_map, h]; rfl
theorem pt_sum {p0 p1 p2 p3 : Lamp} {i : Nat} (h : i < 3) : ([p0, p1, p2, p3].map (pt i)).sum = [lum p0 + (lum p1 + (lum p2 + (lum p3 + 0))), warm p0 + (warm p1 + (warm p2 + (warm p3 + 0))), cool p0 + (cool p1 + (cool p2 + (cool p3 + 0)))].getD i 0 := by
  match i, h with
  | 0, _ => rfl
  | 1, _ => rfl
  | 2, _ => rfl
theorem tint4 {R A1 A2 A3 e0 e1 e2 e3 : Addr} {t : Nat → Tok} {x0 x1 x2 x3 : Lamp} {K : List (Addr × Obj)} {i : Nat} {v : Value} {C : Prop} (hs : ∀ q ∈ seenNew R A1 A2 A3 e0 e1 e2 e3 t x0 x1 x2 x3, q ∈ K) (hv : [Value.ref e0, .ref e1, .ref e2, .ref e3][i]? = some v)
    (k : ∀ (e : Addr) (l : Lamp) (u y z : Tok), v = .ref e → (e, tupOb #[.int (lum l) u, .int (warm l) y, .int (cool l) z]) ∈ K → [x0, x1, x2, x3][i]? = some l → C) : C := by
  match i, hv with
  | 0, hv => exact k e0 _ _ _ _ (Option.some.inj hv).symm (hs _ (.tail _ (.tail _ (.tail _ (.tail _ (.head _)))))) rfl
  | 1, hv => exact k e1 _ _ _ _ (Option.some.inj hv).symm (hs _ (.tail _ (.tail _ (.tail _ (.tail _ (.tail _ (.head _))))))) rfl
  | 2, hv => exact k e2 _ _ _ _ (Option.some.inj hv).symm (hs _ (.tail _ (.tail _ (.tail _ (.tail _ (.tail _ (.tail _ (.head _)))))))) rfl
  | 3, hv => exact k e3 _ _ _ _ (Option.some.inj hv).symm (hs _ (.tail _ (.tail _ (.tail _ (.tail _ (.tail _ (.tail _ (.tail _ (.head _))))))))) rfl
  | n + 4, hv => exact nomatch hv
theorem sums_old (w : World) {mean : ExcName → Option Value} {mg mb : Str → Option Value} (dp un : Nat) (gd : Option (List Code)) (cn : Str) (cs : Scope) (L a : Addr) (ccd : Value) (cl : List (Str × Addr)) (outer : List Env) (gH : Heap) (L' : Addr) (m : Str → Option Value) (s : Shared) (Q E : Value → Shared → Prop) (kl : List (Addr × Obj)) (oc : Obj)
    (R A1 A2 A3 d0 d1 d2 d3 : Addr) (t : Nat → Tok) (p0 p1 p2 p3 : Lamp) (x0 x1 x2 x3 x4 x5 x6 x7 x8 x9 x10 x11 x12 x13 x14 : Pos)
    (F' : Fr gH L' s.heap m) (X' : (heapK w.params).In gH) (N' : News gH L' s.heap kl) (T' : Top viewQ (looseW viewQ looseQ) mean mg mb gH) (hd : dp + 60 < recursionLimit) (hu : un + 240 < cLine)
    (dc : oc.data = Data.cell (some (Value.ref R))) (mc : (L' + 1, oc) ∈ kl) (mem : ∀ q ∈ seenNew R A1 A2 A3 d0 d1 d2 d3 t p0 p1 p2 p3, q ∈ kl)
    (hpost : ∀ D h tk ys, Fr gH L' h m → News gH L' h ((D, LCg.lst ys) :: kl) → (∀ q ∈ kl, q.1 ≠ D) → IntsAre ys [lum p0 + (lum p1 + (lum p2 + (lum p3 + 0))), warm p0 + (warm p1 + (warm p2 + (warm p3 + 0))), cool p0 + (cool p1 + (cool p2 + (cool p3 + 0)))] → Q (.ref D) { s with heap := h, toks := tk }) :
    wpAny (model lawRow.prog w) ((ktrTop dp un gd cn cs L a ccd cl outer).deeper (envOfC (Str.ofString "_law_no_worse") (fnScope 20) L' 152 (Value.ref 151))) (eval (.ListComp (.Call (.Name (Str.ofString "sum") x0) [.ListComp (.Subscript (.Name (Str.ofString "tint") x1) (.Name (Str.ofString "part") x2) x3)
      [⟨.Name (Str.ofString "tint") x4, .Subscript (.Name (Str.ofString "old") x5) (.Constant (.int 2) 0 x6) x7, [], 0⟩]
      { kind := ScopeKind.function, names := [(Str.ofString ".0", NameKind.local), (Str.ofString "tint", NameKind.local), (Str.ofString "part", NameKind.free)], isGenerator := false, isCoroutine := false } x8] [] x9)
      [⟨.Name (Str.ofString "part") x10, .Call (.Name (Str.ofString "range") x11) [.Constant (.int 3) 0 x12] [] x13, [], 0⟩]
      { kind := ScopeKind.function, names := [(Str.ofString ".0", NameKind.local), (Str.ofString "part", NameKind.cell), (Str.ofString "sum", NameKind.globalImplicit), (Str.ofString "old", NameKind.free)], isGenerator := false, isCoroutine := false } x14) (envOfC (Str.ofString "_law_no_worse") (fnScope 20) L' 152 (Value.ref 151))) Q E s := by
  revert X' mem; k_fill; intro X' mem
  have n0 := mem _ (.head _)
  have n3 := mem _ (.tail _ (.tail _ (.tail _ (.head _))))
  (repeat' (first | (k_unfold; (try dsimp only)) | ((with_reducible show CellSrc _ _ _ _ _ _ _ _ _ _ _ _ _ _); refine Stop.mk ?_) | ((with_reducible show wpAny _ _ (eval (.ListComp _ _ _ _) _) _ _ _); with_reducible (k_here; k_dflt (refine' ListComp_C ?kF ?ka ?kb ?kc ?kd ?ke ?kf ?_ (hs := by intro _; rfl); (case kF => k_asm); (case ka => with_unfolding_all rfl); (case kb => (intro _; rfl)); (case kc => (intro _; rfl)); (case kd => rfl); (case ke => decide); (case kf => (intro _ _; rfl)); k_whole))) | walk1 | (dsimp only; walk1) | (leave1; walk_say "STEP leave1"; (try dsimp only)) | fail "no step"))
  unfold Stop
  refine ⟨_, _, _, _, _, _, 3, kl, fun i y => ∃ t, y = .int ([lum p0 + (lum p1 + (lum p2 + (lum p3 + 0))), warm p0 + (warm p1 + (warm p2 + (warm p3 + 0))), cool p0 + (cool p1 + (cool p2 + (cool p3 + 0)))].getD i 0) t, rfl, by with_unfolding_all rfl, by assumption, by assumption, by assumption, by decide, by rfl, by decide, fun i t' c oc' I oI C oC D ys h tk E' hi hC hoc F N => ?_, fun D ys h tk hl hr F N off => hpost D h tk ys F N off (ints_of_rel (ns := [lum p0 + (lum p1 + (lum p2 + (lum p3 + 0))), warm p0 + (warm p1 + (warm p2 + (warm p3 + 0))), cool p0 + (cool p1 + (cool p2 + (cool p3 + 0)))]) hl hr)⟩
  replace hoc : oc'.data = Data.cell (some (Value.int (0 + (i : Int)) t')) := hoc
  (repeat' (first | (k_unfold; (try dsimp only)) | ((with_reducible show LCg.CompSrc _ _ _ _ _ _ _ _ _ _ _ _ _ _); refine Stop.mk ?_) | ((with_reducible show wpAny _ _ (eval (.ListComp _ _ _ _) _) _ _ _); k_here; k_dflt (refine LCg.ListComp_U (F₀ := by k_asm) (by with_unfolding_all rfl) (by decide) (by rfl) (by decide) (by rfl) ?_)) | walk1 | (dsimp only; walk1) | (leave1; walk_say "STEP leave1"; (try dsimp only)) | fail "no step"))
  unfold Stop
  refine comp_led (fun j y => ∃ t, y = .int (([p0, p1, p2, p3].map (pt i)).getD j 0) t) (by with_unfolding_all rfl) (by k_asm) (by k_asm) (by k_mem) (by show 4 ≤ 8; decide) (fun g' i' v' I' oI' C' oC' D' m' ys' h' tk' E' hv' hC' hx' F' N' off' ne' => ?_) (fun g' zs hzl hzr => ?_)
  · refine tint4 mem hv' (fun e l u y z hv me hl => ?_)
    subst hv
    clear hv'
    (repeat' (first | (k_unfold; (try dsimp only)) | ((with_reducible show wpAny _ _ (subscriptTail _ _ (Value.ref _) (Value.int (0 + _) _)) _ _ _); with_reducible (k_here; k_dflt (refine' item_anyT ?qat ?qai ?qaa ?qab ?qac ?_; (case qat => exact News.isTup (by k_asm) (by k_mem)); (case qai => exact .cons _ _ (.cons _ _ (.cons _ _ .nil))); (case qaa => exact part0 _); (case qab => exact part1 (by with_reducible assumption)); (case qac => exact part2 (by with_reducible assumption)); k_whole); intro _)) | ((with_reducible show LCg.CompEnd _ _ _ _ _ _ _ _ _ _ _ _ _ _); refine Stop.mk ?_) | walk1 | (dsimp only; walk1) | (leave1; walk_say "STEP leave1"; (try dsimp only)) | fail "no step"))
    unfold Stop
    exact LCg.CompEnd.intro (by assumption) (by assumption) _ (fun p hp => hp) off' (.inr ⟨_, (by k_mem), rfl, _, rfl⟩) ⟨rfl, _, congrArg (Value.int · _) (pt_get hl).symm⟩
  · have hi1 := ints_of_rel (ns := [p0, p1, p2, p3].map (pt i)) hzl hzr
    unfold LCg.FinE
    intro D2 h2 tk2 F2 N2 off2
    (repeat' (first | (k_unfold; (try dsimp only)) | ((with_reducible show CellEnd _ _ _ _ _ _ _ _); refine Stop.mk ?_) | walk1 | (dsimp only; walk1) | (leave1; walk_say "STEP leave1"; (try dsimp only)) | fail "no step"))
    unfold Stop
    exact CellEnd.intro (by assumption) (by assumption) (fun p hp => by first | exact hp | exact List.mem_cons_of_mem _ hp) ⟨_, congrArg (Value.int · _) (pt_sum hi)⟩
theorem sums_new (w : World) {mean : ExcName → Option Value} {mg mb : Str → Option Value} (dp un : Nat) (gd : Option (List Code)) (cn : Str) (cs : Scope) (L a : Addr) (ccd : Value) (cl : List (Str × Addr)) (outer : List Env) (gH : Heap) (L' : Addr) (m : Str → Option Value) (s : Shared) (Q E : Value → Shared → Prop) (kl : List (Addr × Obj)) (oc : Obj)
    (R2 B1 B2 B3 e0 e1 e2 e3 : Addr) (u : Nat → Tok) (q0 q1 q2 q3 : Lamp) (x0 x1 x2 x3 x4 x5 x6 x7 x8 x9 x10 x11 x12 x13 x14 : Pos)
    (F' : Fr gH L' s.heap m) (X' : (heapK w.params).In gH) (N' : News gH L' s.heap kl) (T' : Top viewQ (looseW viewQ looseQ) mean mg mb gH) (hd : dp + 60 < recursionLimit) (hu : un + 240 < cLine)
    (dc : oc.data = Data.cell (some (Value.ref R2))) (mc : (L' + 1 + 1, oc) ∈ kl) (mem : ∀ q ∈ seenNew R2 B1 B2 B3 e0 e1 e2 e3 u q0 q1 q2 q3, q ∈ kl)
    (hpost : ∀ D h tk ys, Fr gH L' h m → News gH L' h ((D, LCg.lst ys) :: kl) → (∀ q ∈ kl, q.1 ≠ D) → IntsAre ys [lum q0 + (lum q1 + (lum q2 + (lum q3 + 0))), warm q0 + (warm q1 + (warm q2 + (warm q3 + 0))), cool q0 + (cool q1 + (cool q2 + (cool q3 + 0)))] → Q (.ref D) { s with heap := h, toks := tk }) :
    wpAny (model lawRow.prog w) ((ktrTop dp un gd cn cs L a ccd cl outer).deeper (envOfC (Str.ofString "_law_no_worse") (fnScope 20) L' 152 (Value.ref 151))) (eval (.ListComp (.Call (.Name (Str.ofString "sum") x0) [.ListComp (.Subscript (.Name (Str.ofString "tint") x1) (.Name (Str.ofString "part") x2) x3)
      [⟨.Name (Str.ofString "tint") x4, .Subscript (.Name (Str.ofString "new") x5) (.Constant (.int 2) 0 x6) x7, [], 0⟩]
      { kind := ScopeKind.function, names := [(Str.ofString ".0", NameKind.local), (Str.ofString "tint", NameKind.local), (Str.ofString "part", NameKind.free)], isGenerator := false, isCoroutine := false } x8] [] x9)
      [⟨.Name (Str.ofString "part") x10, .Call (.Name (Str.ofString "range") x11) [.Constant (.int 3) 0 x12] [] x13, [], 0⟩]
      { kind := ScopeKind.function, names := [(Str.ofString ".0", NameKind.local), (Str.ofString "part", NameKind.cell), (Str.ofString "sum", NameKind.globalImplicit), (Str.ofString "new", NameKind.free)], isGenerator := false, isCoroutine := false } x14) (envOfC (Str.ofString "_law_no_worse") (fnScope 20) L' 152 (Value.ref 151))) Q E s := by
  revert X' mem; k_fill; intro X' mem
  have n0 := mem _ (.head _)
  have n3 := mem _ (.tail _ (.tail _ (.tail _ (.head _))))
  (repeat' (first | (k_unfold; (try dsimp only)) | ((with_reducible show CellSrc _ _ _ _ _ _ _ _ _ _ _ _ _ _); refine Stop.mk ?_) | ((with_reducible show wpAny _ _ (eval (.ListComp _ _ _ _) _) _ _ _); with_reducible (k_here; k_dflt (refine' ListComp_C ?kF ?ka ?kb ?kc ?kd ?ke ?kf ?_ (hs := by intro _; rfl); (case kF => k_asm); (case ka => with_unfolding_all rfl); (case kb => (intro _; rfl)); (case kc => (intro _; rfl)); (case kd => rfl); (case ke => decide); (case kf => (intro _ _; rfl)); k_whole))) | walk1 | (dsimp only; walk1) | (leave1; walk_say "STEP leave1"; (try dsimp only)) | fail "no step"))
  unfold Stop
  refine ⟨_, _, _, _, _, _, 3, kl, fun i y => ∃ t, y = .int ([lum q0 + (lum q1 + (lum q2 + (lum q3 + 0))), warm q0 + (warm q1 + (warm q2 + (warm q3 + 0))), cool q0 + (cool q1 + (cool q2 + (cool q3 + 0)))].getD i 0) t, rfl, by with_unfolding_all rfl, by assumption, by assumption, by assumption, by decide, by rfl, by decide, fun i t' c oc' I oI C oC D ys h tk E' hi hC hoc F N => ?_, fun D ys h tk hl hr F N off => hpost D h tk ys F N off (ints_of_rel (ns := [lum q0 + (lum q1 + (lum q2 + (lum q3 + 0))), warm q0 + (warm q1 + (warm q2 + (warm q3 + 0))), cool q0 + (cool q1 + (cool q2 + (cool q3 + 0)))]) hl hr)⟩
  replace hoc : oc'.data = Data.cell (some (Value.int (0 + (i : Int)) t')) := hoc
  (repeat' (first | (k_unfold; (try dsimp only)) | ((with_reducible show LCg.CompSrc _ _ _ _ _ _ _ _ _ _ _ _ _ _); refine Stop.mk ?_) | ((with_reducible show wpAny _ _ (eval (.ListComp _ _ _ _) _) _ _ _); k_here; k_dflt (refine LCg.ListComp_U (F₀ := by k_asm) (by with_unfolding_all rfl) (by decide) (by rfl) (by decide) (by rfl) ?_)) | walk1 | (dsimp only; walk1) | (leave1; walk_say "STEP leave1"; (try dsimp only)) | fail "no step"))
  unfold Stop
  refine comp_led (fun j y => ∃ t, y = .int (([q0, q1, q2, q3].map (pt i)).getD j 0) t) (by with_unfolding_all rfl) (by k_asm) (by k_asm) (by k_mem) (by show 4 ≤ 8; decide) (fun g' i' v' I' oI' C' oC' D' m' ys' h' tk' E' hv' hC' hx' F' N' off' ne' => ?_) (fun g' zs hzl hzr => ?_)
  · refine tint4 mem hv' (fun e l u y z hv me hl => ?_)
    subst hv
    clear hv'
    (repeat' (first | (k_unfold; (try dsimp only)) | ((with_reducible show wpAny _ _ (subscriptTail _ _ (Value.ref _) (Value.int (0 + _) _)) _ _ _); with_reducible (k_here; k_dflt (refine' item_anyT ?qat ?qai ?qaa ?qab ?qac ?_; (case qat => exact News.isTup (by k_asm) (by k_mem)); (case qai => exact .cons _ _ (.cons _ _ (.cons _ _ .nil))); (case qaa => exact part0 _); (case qab => exact part1 (by with_reducible assumption)); (case qac => exact part2 (by with_reducible assumption)); k_whole); intro _)) | ((with_reducible show LCg.CompEnd _ _ _ _ _ _ _ _ _ _ _ _ _ _); refine Stop.mk ?_) | walk1 | (dsimp only; walk1) | (leave1; walk_say "STEP leave1"; (try dsimp only)) | fail "no step"))
    unfold Stop
    exact LCg.CompEnd.intro (by assumption) (by assumption) _ (fun p hp => hp) off' (.inr ⟨_, (by k_mem), rfl, _, rfl⟩) ⟨rfl, _, congrArg (Value.int · _) (pt_get hl).symm⟩
  · have hi1 := ints_of_rel (ns := [q0, q1, q2, q3].map (pt i)) hzl hzr
    unfold LCg.FinE
    intro D2 h2 tk2 F2 N2 off2
    (repeat' (first | (k_unfold; (try dsimp only)) | ((with_reducible show CellEnd _ _ _ _ _ _ _ _); refine Stop.mk ?_) | walk1 | (dsimp only; walk1) | (leave1; walk_say "STEP leave1"; (try dsimp only)) | fail "no step"))
    unfold Stop
    exact CellEnd.intro (by assumption) (by assumption) (fun p hp => by first | exact hp | exact List.mem_cons_of_mem _ hp) ⟨_, congrArg (Value.int · _) (pt_sum hi)⟩
end Mine
end
section
open PySem PySem.W PyProof.Rows PySem.Calls
set_option maxRecDepth 100000
set_option maxHeartbeats 0
set_option linter.unusedVariables false
namespace Mine
theorem f_no_worse (w : World) (R A1 A2 A3 d0 d1 d2 d3 R2 B1 B2 B3 e0 e1 e2 e3 : Addr) (t u : Nat → Tok) (p0 p1 p2 p3 q0 q1 q2 q3 : Lamp) (hbo : ∀ l ∈ [p0, p1, p2, p3, q0, q1, q2, q3], (0 ≤ mx l ∧ mx l ≤ 60) ∧ (0 ≤ mn l ∧ mn l ≤ 60)) (hT : Dom [mx p0, mx p1, mx p2, mx p3] [mx q0, mx q1, mx q2, mx q3]) (hM : Maj [lum p0, lum p1, lum p2, lum p3] [lum q0, lum q1, lum q2, lum q3]) (hLw : Dom [mn q0, mn q1, mn q2, mn q3] [mn p0, mn p1, mn p2, mn p3]) (hS1 : lum p0 + (lum p1 + (lum p2 + (lum p3 + 0))) = lum q0 + (lum q1 + (lum q2 + (lum q3 + 0)))) (hS2 : warm p0 + (warm p1 + (warm p2 + (warm p3 + 0))) = warm q0 + (warm q1 + (warm q2 + (warm q3 + 0)))) (hS3 : cool p0 + (cool p1 + (cool p2 + (cool p3 + 0))) = cool q0 + (cool q1 + (cool q2 + (cool q3 + 0)))) (need : List (Addr × Obj)) (mO : ∀ q ∈ seenNew R A1 A2 A3 d0 d1 d2 d3 t p0 p1 p2 p3, q ∈ need) (mN : ∀ q ∈ seenNew R2 B1 B2 B3 e0 e1 e2 e3 u q0 q1 q2 q3, q ∈ need) : ClaimF w 60 240 152 need [.ref R, .ref R2] (fun v new => v = .bool true ∧ new = []) := by
  unfold ClaimF
  k_fill
  intro mean mg mb dp un gd cn cs a ccd cl outer A₀ base h₀ L m s Q E Bz Fz Xz Nz Tz hk hd hu hr
  refine wpAny_call ?_
  k_dflt (refine' enterC ?k1 ?k2 ?k3 ?k4 ?k5 ?kA ?kF ?kK ?k6 ?k7 ?k8 ?k9 ?kB ?kD ?_ ?c2 ?c3 ?c4; (case kA => exact rfl); (case kF => exact rfl); (case kK => assumption); (case k1 => k_asm); (case k2 => k_asm); (case k3 => k_asm); (case k4 => k_asm); (case k5 => k_asm); (case k6 => k_is); (case k7 => k_is); (case k8 => ktr_room); (case k9 => exact BindsTo.of_eq rfl); (case kB => exact rfl); (case kD => decide +kernel); (case c2 => exact rfl); (case c3 => exact rfl); (case c4 => exact rfl); k_whole; intro gH L' h' tk' cells' hg FG' F' N' Y' B' X' T' l1; (try k_lt l1); k_cells Y'; (try simp only [List.cons_append, List.nil_append] at N'); (try dsimp only); (try k_fold))
  refine opaqH (fun Q' hQ' => ?_)
  (rename (_ = Data.cell (some (Value.ref R))) => dc1)
  (rename (_ = Data.cell (some (Value.ref R2))) => dc2)
  replace dc1 : _ = Data.cell (some (Value.ref R)) := dc1
  replace dc2 : _ = Data.cell (some (Value.ref R2)) := dc2
  obtain ⟨m0, F0⟩ : ∃ m0, Fr gH L' _ m0 := ⟨_, F'⟩
  clear F'
  refine ledO N' (fun K eK hK NK => ?_)
  clear eK N'
  have mc2 := hK _ (.head _)
  have mc1 := hK _ (.tail _ (.head _))
  have hn : ∀ q ∈ need, q ∈ K := fun q hq => hK _ (.tail _ (.tail _ hq))
  have mO' : ∀ q ∈ seenNew R A1 A2 A3 d0 d1 d2 d3 t p0 p1 p2 p3, q ∈ K := fun q hq => hn q (mO q hq)
  have mN' : ∀ q ∈ seenNew R2 B1 B2 B3 e0 e1 e2 e3 u q0 q1 q2 q3, q ∈ K := fun q hq => hn q (mN q hq)
  clear hK
  have nR := mO' _ (.head _)
  have nS := mN' _ (.head _)
  have hbP := bdP hbo
  clear mO mN
  (repeat' (first | (k_unfold; (try dsimp only)) | ((with_reducible show wpAny _ _ (execs (_ :: _) _) _ _ _); (try k_gentoks); refine execsO ?_; intro _ _) | ((with_reducible show wpAny _ _ (exec (.For (.Tuple _ _ _) (.Call _ _ _ _) _ _ _) _) _ _ _); k_here; (rename Fr _ _ _ _ => lF'); (with_unfolding_all refine' For_turns lF' ?_; k_whole)) | ((with_reducible show wpAny _ _ (subscriptTail _ _ (Value.ref _) (Value.int _ _)) _ _ _); with_reducible (k_here; k_dflt (refine' item_tupleT ?qtt ?qta ?qtb ?qtc ?qtd ?_; (case qtt => exact News.isTup (by k_asm) (by k_mem)); (case qta => decide); (case qtb => decide); (case qtc => rfl); (case qtd => rfl); k_whole))) | ((with_reducible show wpAny _ _ (call (Value.builtin "sorted") _ _) _ _ _); refine Stop.mk ?_) | walk1 | (dsimp only; walk1) | (leave1; walk_say "STEP leave1"; (try dsimp only)) | (refine Nx.nx (by with_reducible assumption) ?_) | (refine Nx.rt (by with_reducible assumption) ?_) | fail "no step"))
  unfold Stop
  refine sortedP hbP.1 (by assumption) NK (mO' _ (.tail _ (.head _))) (fun D1 X1 k1 h1 F1 N1 s1 => ?_)
  (repeat' (first | (k_unfold; (try dsimp only)) | ((with_reducible show wpAny _ _ (execs (_ :: _) _) _ _ _); (try k_gentoks); refine execsO ?_; intro _ _) | ((with_reducible show wpAny _ _ (subscriptTail _ _ (Value.ref _) (Value.int _ _)) _ _ _); with_reducible (k_here; k_dflt (refine' item_tupleT ?qtt ?qta ?qtb ?qtc ?qtd ?_; (case qtt => exact News.isTup (by k_asm) (by k_mem)); (case qta => decide); (case qtb => decide); (case qtc => rfl); (case qtd => rfl); k_whole))) | ((with_reducible show wpAny _ _ (call (Value.builtin "sorted") _ _) _ _ _); refine Stop.mk ?_) | walk1 | (dsimp only; walk1) | (leave1; walk_say "STEP leave1"; (try dsimp only)) | (refine Nx.nx (by with_reducible assumption) ?_) | (refine Nx.rt (by with_reducible assumption) ?_) | fail "no step"))
  unfold Stop
  refine sortedP hbP.2.2.2 F1 N1 (.tail _ (mN' _ (.tail _ (.tail _ (.head _))))) (fun D2 U1 k2 h2 F2 N2 s2 => ?_)
  clear F1 N1
  (repeat' (first | (k_unfold; (try dsimp only)) | ((with_reducible show wpAny _ _ (execs (_ :: _) _) _ _ _); (try k_gentoks); refine execsO ?_; intro _ _) | ((with_reducible show wpAny _ _ (binaryOp .Add (Value.ref _) (Value.ref _)) _ _ _); refine Stop.mk ?_) | walk1 | (dsimp only; walk1) | (leave1; walk_say "STEP leave1"; (try dsimp only)) | (refine Nx.nx (by with_reducible assumption) ?_) | (refine Nx.rt (by with_reducible assumption) ?_) | fail "no step"))
  unfold Stop
  refine addP s1 s2 F2 N2 (fun D3 h3 F3 N3 => ?_)
  clear F2 N2
  (repeat' (first | (k_unfold; (try dsimp only)) | ((with_reducible show wpAny _ _ (execs (_ :: _) _) _ _ _); (try k_gentoks); refine execsO ?_; intro _ _) | ((with_reducible show wpAny _ _ (subscriptTail _ _ (Value.ref _) (Value.int _ _)) _ _ _); with_reducible (k_here; k_dflt (refine' item_tupleT ?qtt ?qta ?qtb ?qtc ?qtd ?_; (case qtt => exact News.isTup (by k_asm) (by k_mem)); (case qta => decide); (case qtb => decide); (case qtc => rfl); (case qtd => rfl); k_whole))) | ((with_reducible show wpAny _ _ (call (Value.builtin "sorted") _ _) _ _ _); refine Stop.mk ?_) | walk1 | (dsimp only; walk1) | (leave1; walk_say "STEP leave1"; (try dsimp only)) | (refine Nx.nx (by with_reducible assumption) ?_) | (refine Nx.rt (by with_reducible assumption) ?_) | fail "no step"))
  unfold Stop
  refine sortedP hbP.2.2.1 F3 N3 (.tail _ (mN' _ (.tail _ (.head _)))) (fun D4 X2 k4 h4 F4 N4 s3 => ?_)
  (repeat' (first | (k_unfold; (try dsimp only)) | ((with_reducible show wpAny _ _ (execs (_ :: _) _) _ _ _); (try k_gentoks); refine execsO ?_; intro _ _) | ((with_reducible show wpAny _ _ (subscriptTail _ _ (Value.ref _) (Value.int _ _)) _ _ _); with_reducible (k_here; k_dflt (refine' item_tupleT ?qtt ?qta ?qtb ?qtc ?qtd ?_; (case qtt => exact News.isTup (by k_asm) (by k_mem)); (case qta => decide); (case qtb => decide); (case qtc => rfl); (case qtd => rfl); k_whole))) | ((with_reducible show wpAny _ _ (call (Value.builtin "sorted") _ _) _ _ _); refine Stop.mk ?_) | walk1 | (dsimp only; walk1) | (leave1; walk_say "STEP leave1"; (try dsimp only)) | (refine Nx.nx (by with_reducible assumption) ?_) | (refine Nx.rt (by with_reducible assumption) ?_) | fail "no step"))
  unfold Stop
  refine sortedP hbP.2.1 F4 N4 (.tail _ (.tail _ (mO' _ (.tail _ (.tail _ (.head _)))))) (fun D5 U2 k5 h5 F5 N5 s4 => ?_)
  clear F3 N3 F4 N4
  (repeat' (first | (k_unfold; (try dsimp only)) | ((with_reducible show wpAny _ _ (execs (_ :: _) _) _ _ _); (try k_gentoks); refine execsO ?_; intro _ _) | ((with_reducible show wpAny _ _ (binaryOp .Add (Value.ref _) (Value.ref _)) _ _ _); refine Stop.mk ?_) | walk1 | (dsimp only; walk1) | (leave1; walk_say "STEP leave1"; (try dsimp only)) | (refine Nx.nx (by with_reducible assumption) ?_) | (refine Nx.rt (by with_reducible assumption) ?_) | fail "no step"))
  unfold Stop
  refine addP s3 s4 F5 N5 (fun D6 h6 F6 N6 => ?_)
  clear F5 N5
  (repeat' (first | (k_unfold; (try dsimp only)) | ((with_reducible show wpAny _ _ (execs (_ :: _) _) _ _ _); (try k_gentoks); refine execsO ?_; intro _ _) | ((with_reducible show wpAny _ _ (call (Value.type "zip") _ _) _ _ _); refine Stop.mk ?_) | walk1 | (dsimp only; walk1) | (leave1; walk_say "STEP leave1"; (try dsimp only)) | (refine Nx.nx (by with_reducible assumption) ?_) | (refine Nx.rt (by with_reducible assumption) ?_) | fail "no step"))
  unfold Stop
  refine' ktu_zip ?h F6 ?kN (.tail _ (.head _)) ?c1 ?d1 (.head _) ?c2 ?d2 ?_
  case kN => exact N6
  case h => with_unfolding_all rfl
  case c1 => rfl
  case c2 => rfl
  case d1 => rfl
  case d2 => rfl
  intro i' l9
  refine items_inv (fun its m n => (∀ p ∈ (D6, W.listOf (X2 ++ U2).toArray 0) :: (D3, W.listOf (X1 ++ U1).toArray 0) :: K, p ∈ n) ∧ PO its) ?turn ?kfin _ _ _ ⟨fun p hp => hp, poSF s1 s2 s3 s4 hT hLw⟩
  case turn =>
    clear N6 F6 NK mO' mN' nR nS hbP s1 s2 s3 s4 hT hLw hM hS1 hS2 hS3 mc1 mc2
    rintro a r m n ⟨hkn, hpo⟩ v h tk hv F
    cases hpo with
    | cons ha hb hba hpo =>
      obtain ⟨T, t, rfl, hT⟩ := hv
      refine AllObj.cons (fun o1 z1 => AllObj.cons (fun o2 z2 => AllObj.cons (fun o3 z3 => AllObj.cons (fun o4 z4 => AllObj.cons (fun o5 z5 => AllObj.nil (fun N' => ?_))))))
      dsimp only at hT
      refine opaqQ2 (fun Q9 hQ9 => ?_)
      (repeat' (first | (k_unfold; (try dsimp only)) | ((with_reducible show wpAny _ _ (execs (_ :: _) _) _ _ _); (try k_gentoks); refine execsO ?_; intro _ _) | ((with_reducible show wpAny _ _ (compareOp .Lt (Value.float _ _) (Value.float _ _)) _ _ _); refine Stop.mk ?_) | ((with_reducible show wpAny _ _ (execs [] _) _ _ _); refine wpAny_execs_nil ?_) | walk1 | (dsimp only; walk1) | (leave1; walk_say "STEP leave1"; (try dsimp only)) | (refine Nx.nx (by with_reducible assumption) ?_) | (refine Nx.rt (by with_reducible assumption) ?_) | fail "no step"))
      unfold Stop
      refine ltFI ha hb hba ?_
      (repeat' (first | (k_unfold; (try dsimp only)) | ((with_reducible show wpAny _ _ (execs (_ :: _) _) _ _ _); (try k_gentoks); refine execsO ?_; intro _ _) | ((with_reducible show wpAny _ _ (execs [] _) _ _ _); refine wpAny_execs_nil ?_) | walk1 | (dsimp only; walk1) | (leave1; walk_say "STEP leave1"; (try dsimp only)) | (refine Nx.nx (by with_reducible assumption) ?_) | (refine Nx.rt (by with_reducible assumption) ?_) | fail "no step"))
      refine hQ9 _ _ ?_
      dsimp only [UnrPostW]
      refine UnrEndW.intro (by assumption) (by k_asm) _ (subL_of fun p hp => List.mem_append_left _ hp) (subL_of fun p hp => List.mem_append_right _ (hkn p hp)) (offW_of (zip_off l9)) ⟨⟨.tail _ (.head _), .head _, trivial⟩, fun p hp => hp, hpo⟩
  case kfin =>
    clear NK F6 l9 s1 s2 s3 s4
    rintro m n ⟨hkn, -⟩ h tk F N0
    have NK : News gH L' h K := News.less N0 (fun p hp => hkn p (.tail _ (.tail _ hp)))
    clear N0 hkn N6
    (repeat' (first | (k_unfold; (try dsimp only)) | ((with_reducible show wpAny _ _ (execs (_ :: _) _) _ _ _); (try k_gentoks); refine execsO ?_; intro _ _) | ((with_reducible show wpAny _ _ (subscriptTail _ _ (Value.ref _) (Value.int _ _)) _ _ _); with_reducible (k_here; k_dflt (refine' item_tupleT ?qtt ?qta ?qtb ?qtc ?qtd ?_; (case qtt => exact News.isTup (by k_asm) (by k_mem)); (case qta => decide); (case qtb => decide); (case qtc => rfl); (case qtd => rfl); k_whole))) | ((with_reducible show wpAny _ _ (eval (.ListComp _ _ _ _) _) _ _ _); k_here; k_dflt (refine LCg.ListComp_U (F₀ := by k_asm) (by with_unfolding_all rfl) (by decide) (by rfl) (by decide) (by rfl) ?_)) | ((with_reducible show LCg.CompSrc _ _ _ _ _ _ _ _ _ _ _ _ _ _); refine Stop.mk ?_) | walk1 | (dsimp only; walk1) | (leave1; walk_say "STEP leave1"; (try dsimp only)) | (refine Nx.nx (by with_reducible assumption) ?_) | (refine Nx.rt (by with_reducible assumption) ?_) | fail "no step"))
    unfold Stop
    refine comp_led (fun i y => ∃ t, y = .int ([lum p0, lum p1, lum p2, lum p3].getD i 0) t) (by with_unfolding_all rfl) (by k_asm) (by k_asm) (mO' _ (.tail _ (.tail _ (.tail _ (.head _))))) (by show 4 ≤ 8; decide) (fun g' i' v' I' oI' C' oC' D' m' ys' h' tk' E' hv' hC' hx' F' N' off' ne' => ?_) (fun g' zs hzl hzr => ?_)
    · refine lum4 mO' hv' (fun e n u y z hv mem hn => ?_)
      subst hv
      clear hv'
      (repeat' (first | (k_unfold; (try dsimp only)) | ((with_reducible show wpAny _ _ (subscriptTail _ _ (Value.ref _) (Value.int _ _)) _ _ _); with_reducible (k_here; k_dflt (refine' item_tupleT ?qtt ?qta ?qtb ?qtc ?qtd ?_; (case qtt => exact News.isTup (by k_asm) (by k_mem)); (case qta => decide); (case qtb => decide); (case qtc => rfl); (case qtd => rfl); k_whole))) | ((with_reducible show LCg.CompEnd _ _ _ _ _ _ _ _ _ _ _ _ _ _); refine Stop.mk ?_) | walk1 | (dsimp only; walk1) | (leave1; walk_say "STEP leave1"; (try dsimp only)) | fail "no step"))
      unfold Stop
      exact LCg.CompEnd.intro (by assumption) (by assumption) _ (fun p hp => hp) off' (.inr ⟨_, mO' _ (.tail _ (.tail _ (.tail _ (.head _)))), rfl, _, rfl⟩) ⟨rfl, _, congrArg (Value.int · u) hn.symm⟩
    · have hi1 := ints_of_rel (ns := [lum p0, lum p1, lum p2, lum p3]) hzl hzr
      unfold LCg.FinE
      intro D2 h2 tk2 F2 N2 off2
      clear hzl hzr off2
      (repeat' (first | (k_unfold; (try dsimp only)) | ((with_reducible show wpAny _ _ (execs (_ :: _) _) _ _ _); (try k_gentoks); refine execsO ?_; intro _ _) | ((with_reducible show wpAny _ _ (call (Value.builtin "sorted") _ _) _ _ _); refine Stop.mk ?_) | walk1 | (dsimp only; walk1) | (leave1; walk_say "STEP leave1"; (try dsimp only)) | (refine Nx.nx (by with_reducible assumption) ?_) | (refine Nx.rt (by with_reducible assumption) ?_) | fail "no step"))
      unfold Stop
      refine revP F2 N2 (.head _) hi1 (by show 4 < 64; decide) (fun Da va na ca ha Fa Na la ia pa oa => ?_)
      clear F2 N2 hi1
      (repeat' (first | (k_unfold; (try dsimp only)) | ((with_reducible show wpAny _ _ (execs (_ :: _) _) _ _ _); (try k_gentoks); refine execsO ?_; intro _ _) | ((with_reducible show wpAny _ _ (subscriptTail _ _ (Value.ref _) (Value.int _ _)) _ _ _); with_reducible (k_here; k_dflt (refine' item_tupleT ?qtt ?qta ?qtb ?qtc ?qtd ?_; (case qtt => exact News.isTup (by k_asm) (by k_mem)); (case qta => decide); (case qtb => decide); (case qtc => rfl); (case qtd => rfl); k_whole))) | ((with_reducible show wpAny _ _ (eval (.ListComp _ _ _ _) _) _ _ _); k_here; k_dflt (refine LCg.ListComp_U (F₀ := by k_asm) (by with_unfolding_all rfl) (by decide) (by rfl) (by decide) (by rfl) ?_)) | ((with_reducible show LCg.CompSrc _ _ _ _ _ _ _ _ _ _ _ _ _ _); refine Stop.mk ?_) | walk1 | (dsimp only; walk1) | (leave1; walk_say "STEP leave1"; (try dsimp only)) | (refine Nx.nx (by with_reducible assumption) ?_) | (refine Nx.rt (by with_reducible assumption) ?_) | fail "no step"))
      unfold Stop
      refine comp_led (fun i y => ∃ t, y = .int ([lum q0, lum q1, lum q2, lum q3].getD i 0) t) (by with_unfolding_all rfl) (by k_asm) (by k_asm) (by have := mN' _ (.tail _ (.tail _ (.tail _ (.head _)))); k_mem) (by show 4 ≤ 8; decide) (fun g' i' v' I' oI' C' oC' D' m' ys' h' tk' E' hv' hC' hx' F' N' off' ne' => ?_) (fun g' zs2 hzl2 hzr2 => ?_)
      · refine lum4 mN' hv' (fun e n u y z hv mem hn => ?_)
        subst hv
        clear hv'
        (repeat' (first | (k_unfold; (try dsimp only)) | ((with_reducible show wpAny _ _ (subscriptTail _ _ (Value.ref _) (Value.int _ _)) _ _ _); with_reducible (k_here; k_dflt (refine' item_tupleT ?qtt ?qta ?qtb ?qtc ?qtd ?_; (case qtt => exact News.isTup (by k_asm) (by k_mem)); (case qta => decide); (case qtb => decide); (case qtc => rfl); (case qtd => rfl); k_whole))) | ((with_reducible show LCg.CompEnd _ _ _ _ _ _ _ _ _ _ _ _ _ _); refine Stop.mk ?_) | walk1 | (dsimp only; walk1) | (leave1; walk_say "STEP leave1"; (try dsimp only)) | fail "no step"))
        unfold Stop
        exact LCg.CompEnd.intro (by assumption) (by assumption) _ (fun p hp => hp) off' (.inr ⟨_, (by have := mN' _ (.tail _ (.tail _ (.tail _ (.head _)))); k_mem), rfl, _, rfl⟩) ⟨rfl, _, congrArg (Value.int · u) hn.symm⟩
      · have hi2 := ints_of_rel (ns := [lum q0, lum q1, lum q2, lum q3]) hzl2 hzr2
        unfold LCg.FinE
        intro D3 h3 tk3 F3 N3 off3
        clear hzl2 hzr2 off3
        (repeat' (first | (k_unfold; (try dsimp only)) | ((with_reducible show wpAny _ _ (execs (_ :: _) _) _ _ _); (try k_gentoks); refine execsO ?_; intro _ _) | ((with_reducible show wpAny _ _ (call (Value.builtin "sorted") _ _) _ _ _); refine Stop.mk ?_) | walk1 | (dsimp only; walk1) | (leave1; walk_say "STEP leave1"; (try dsimp only)) | (refine Nx.nx (by with_reducible assumption) ?_) | (refine Nx.rt (by with_reducible assumption) ?_) | fail "no step"))
        unfold Stop
        refine revP F3 N3 (.head _) hi2 (by show 4 < 64; decide) (fun Db vb nb cb hb Fb Nb lb ib pb ob => ?_)
        clear F3 N3 hi2
        (repeat' (first | (k_unfold; (try dsimp only)) | ((with_reducible show wpAny _ _ (execs (_ :: _) _) _ _ _); (try k_gentoks); refine execsO ?_; intro _ _) | ((with_reducible show RangeRest _ _ _ _ _ _ _ _ _ _ _ _ _ _ _ _ _); refine Stop.mk ?_) | walk1 | (dsimp only; walk1) | (leave1; walk_say "STEP leave1"; (try dsimp only)) | (refine Nx.nx (by with_reducible assumption) ?_) | (refine Nx.rt (by with_reducible assumption) ?_) | fail "no step"))
        unfold Stop
        rename_i iI lI
        refine range_inv (fun i m n => (_, W.listOf vb.toArray cb) :: _ :: (_, W.listOf va.toArray ca) :: _ :: K = n ∧ m (Str.ofString "behind") = some (.ref Db) ∧ m (Str.ofString "before") = some (.ref Da)) ?turn3 ?fin3 3 0 _ _ rfl ⟨rfl, by with_unfolding_all rfl, by with_unfolding_all rfl⟩
        case turn3 =>
          clear Na
          rintro i m n t h tk hi ⟨rfl, k1, k2⟩ F N
          refine fr3 (x1 := Str.ofString "count") (x2 := Str.ofString "behind") (x3 := Str.ofString "before") F (by with_unfolding_all rfl) (by with_unfolding_all exact k1) (by with_unfolding_all exact k2) (fun m9 F9 => ?_)
          clear F k1 k2
          (repeat' (first | (k_unfold; (try dsimp only)) | ((with_reducible show wpAny _ _ (execs (_ :: _) _) _ _ _); (try k_gentoks); refine execsO ?_; intro _ _) | ((with_reducible show wpAny _ _ (subscriptTail _ _ (Value.ref _) (Value.ref _)) _ _ _); refine Stop.mk ?_) | walk1 | (dsimp only; walk1) | (leave1; walk_say "STEP leave1"; (try dsimp only)) | (refine Nx.nx (by with_reducible assumption) ?_) | (refine Nx.rt (by with_reducible assumption) ?_) | fail "no step"))
          unfold Stop
          k_dflt (refine' sliceI F9 N (.tail _ (.head _)) ib (cnt0 i) (by rw [ib.length, pb.length_eq]; show 4 ≤ 8; decide) (fun D8 w8 h8 F8 N8 i8 => ?_) ?sa ?sb)
          case sa => with_unfolding_all rfl
          case sb => kmk_pure
          clear F9 N
          (repeat' (first | (k_unfold; (try dsimp only)) | ((with_reducible show wpAny _ _ (execs (_ :: _) _) _ _ _); (try k_gentoks); refine execsO ?_; intro _ _) | ((with_reducible show wpAny _ _ (subscriptTail _ _ (Value.ref _) (Value.ref _)) _ _ _); refine Stop.mk ?_) | walk1 | (dsimp only; walk1) | (leave1; walk_say "STEP leave1"; (try dsimp only)) | (refine Nx.nx (by with_reducible assumption) ?_) | (refine Nx.rt (by with_reducible assumption) ?_) | fail "no step"))
          unfold Stop
          rename News _ _ _ _ => N7
          rename Fr _ _ _ _ => F7
          k_dflt (refine' sliceI F7 N7 (by k_mem) ia (cnt0 i) (by rw [ia.length, pa.length_eq]; show 4 ≤ 8; decide) (fun D9 w9 h9 F9 N9 i9 => ?_) ?sa ?sb)
          case sa => with_unfolding_all rfl
          case sb => kmk_pure
          clear F7 N7
          (repeat' (first | (k_unfold; (try dsimp only)) | ((with_reducible show wpAny _ _ (execs (_ :: _) _) _ _ _); (try k_gentoks); refine execsO ?_; intro _ _) | ((with_reducible show wpAny _ _ (compareOp .Lt (Value.int _ _) (Value.int _ _)) _ _ _); refine Stop.mk ?_) | walk1 | (dsimp only; walk1) | (leave1; walk_say "STEP leave1"; (try dsimp only)) | (refine Nx.nx (by with_reducible assumption) ?_) | (refine Nx.rt (by with_reducible assumption) ?_) | fail "no step"))
          unfold Stop
          refine ltII (hM.use pa oa pb ob) ?_
          (repeat' (first | (k_unfold; (try dsimp only)) | ((with_reducible show wpAny _ _ (execs (_ :: _) _) _ _ _); (try k_gentoks); refine execsO ?_; intro _ _) | ((with_reducible show wpAny _ _ (execs [] _) _ _ _); refine wpAny_execs_nil ?_) | walk1 | (dsimp only; walk1) | (leave1; walk_say "STEP leave1"; (try dsimp only)) | (refine Nx.nx (by with_reducible assumption) ?_) | (refine Nx.rt (by with_reducible assumption) ?_) | fail "no step"))
          exact endU2 (by assumption) (by k_asm) (List.forall_mem_cons.mpr ⟨lI.1, List.forall_mem_cons.mpr ⟨lI.2.1, List.forall_mem_cons.mpr ⟨lI.2.2.1, List.forall_mem_cons.mpr ⟨lI.2.2.2.1, AllLt.mem lI.2.2.2.2⟩⟩⟩⟩) ⟨rfl, by with_unfolding_all rfl, by with_unfolding_all rfl⟩
        case fin3 =>
          rintro m n ⟨rfl, -, -⟩ h tk F N
          clear Na
          (repeat' (first | (k_unfold; (try dsimp only)) | ((with_reducible show wpAny _ _ (execs (_ :: _) _) _ _ _); (try k_gentoks); refine execsO ?_; intro _ _) | ((with_reducible show wpAny _ _ (eval (.ListComp _ _ _ _) _) _ _ _); refine Stop.mk ?_) | walk1 | (dsimp only; walk1) | (leave1; walk_say "STEP leave1"; (try dsimp only)) | (refine Nx.nx (by with_reducible assumption) ?_) | (refine Nx.rt (by with_reducible assumption) ?_) | fail "no step"))
          unfold Stop
          rename News _ _ _ _ => N9
          refine' sums_old w dp un gd cn cs L a ccd cl outer gH L' _ _ _ _ K _ R A1 A2 A3 d0 d1 d2 d3 t p0 p1 p2 p3 _ _ _ _ _ _ _ _ _ _ _ _ _ _ _ ?kF ?kX ?kN ?kT ?kd ?ku dc1 mc1 mO' ?kp
          case kF => assumption
          case kX => assumption
          case kN => exact News.less N9 (fun p hp => .tail _ (.tail _ (.tail _ (.tail _ hp))))
          case kT => assumption
          case kd => lia
          case ku => lia
          case kp =>
            intro Dc h5 tk5 ya F5 N5 off5 hia
            clear N9 off5
            (repeat' (first | (k_unfold; (try dsimp only)) | ((with_reducible show wpAny _ _ (execs (_ :: _) _) _ _ _); (try k_gentoks); refine execsO ?_; intro _ _) | ((with_reducible show wpAny _ _ (eval (.ListComp _ _ _ _) _) _ _ _); refine Stop.mk ?_) | walk1 | (dsimp only; walk1) | (leave1; walk_say "STEP leave1"; (try dsimp only)) | (refine Nx.nx (by with_reducible assumption) ?_) | (refine Nx.rt (by with_reducible assumption) ?_) | fail "no step"))
            unfold Stop
            refine' sums_new w dp un gd cn cs L a ccd cl outer gH L' _ _ _ _ ((Dc, LCg.lst ya) :: K) _ R2 B1 B2 B3 e0 e1 e2 e3 u q0 q1 q2 q3 _ _ _ _ _ _ _ _ _ _ _ _ _ _ _ ?kF ?kX ?kN ?kT ?kd ?ku dc2 (.tail _ mc2) (fun p hp => .tail _ (mN' p hp)) ?kp2
            case kF => assumption
            case kX => assumption
            case kN => assumption
            case kT => assumption
            case kd => lia
            case ku => lia
            case kp2 =>
              intro Dd h6 tk6 yb F6 N6 off6 hib
              clear N5 F5 off6
              rw [← hS1, ← hS2, ← hS3] at hib
              (repeat' (first | (k_unfold; (try dsimp only)) | ((with_reducible show wpAny _ _ (execs (_ :: _) _) _ _ _); (try k_gentoks); refine execsO ?_; intro _ _) | walk1 | (dsimp only; walk1) | (leave1; walk_say "STEP leave1"; (try dsimp only)) | (refine Nx.nx (by with_reducible assumption) ?_) | (refine Nx.rt (by with_reducible assumption) ?_) | fail "no step"))
              refine hQ' _ _ ?_
              (try dsimp only)
              (repeat' (first | (k_unfold; (try dsimp only)) | ((with_reducible show wpAny _ _ (execs (_ :: _) _) _ _ _); (try k_gentoks); refine execsO ?_; intro _ _) | walk1 | (dsimp only; walk1) | (leave1; walk_say "STEP leave1"; (try dsimp only)) | (refine Nx.nx (by with_reducible assumption) ?_) | (refine Nx.rt (by with_reducible assumption) ?_) | fail "no step"))
              exact hr _ [] _ _ ⟨rfl, rfl⟩ (BackK.of hg (by assumption) (by assumption) (by assumption) (by assumption) (fun p hp => .tail _ (.tail _ (hn p hp))) (fun p hp => nomatch hp))
end Mine
end
section
open PySem PySem.W PyProof.Rows PySem.Calls
set_option maxRecDepth 100000
set_option maxHeartbeats 0
set_option linter.unusedVariables false
namespace Mine
theorem f_seen (w : World) (aP : Addr) (kP : Nat) (p0 p1 p2 p3 : Lamp) (ok : ∀ l ∈ [p0, p1, p2, p3], LampOk l) (need : List (Addr × Obj)) (mP : (aP, W.listOf [Value.ref p0.T, .ref p1.T, .ref p2.T, .ref p3.T].toArray kP) ∈ need) (mp : ∀ l ∈ [p0, p1, p2, p3], lamE l ∈ need) : ClaimF w 60 240 147 need [.ref aP] (fun v new => ∃ R A1 A2 A3 d0 d1 d2 d3 t, v = .ref R ∧ new = seenNew R A1 A2 A3 d0 d1 d2 d3 t p0 p1 p2 p3) := by
  unfold ClaimF
  k_fill
  intro mean mg mb dp un gd cn cs a ccd cl outer A₀ base h₀ L m s Q E Bz Fz Xz Nz Tz hk hd hu hr
  refine wpAny_call ?_
  k_dflt (refine' enterP ?k1 ?k2 ?k3 ?k4 ?k5 ?kA ?kF ?kK ?k6 ?k7 ?k8 ?k9 ?kB ?_ ?c2 ?c3 ?c4 ?c5; (case kA => exact rfl); (case kF => exact rfl); (case kK => assumption); (case k1 => k_asm); (case k2 => k_asm); (case k3 => k_asm); (case k4 => k_asm); (case k5 => k_asm); (case k6 => k_is); (case k7 => k_is); (case k8 => ktr_room); (case k9 => exact BindsTo.of_eq rfl); (case c5 => decide); (case kB => exact locs rfl); (case c2 => exact rfl); (case c3 => exact rfl); (case c4 => exact rfl); k_whole; intro gH L' h' tk' hg FG' F' N' B' X' T'; (try dsimp only); (try k_fold))
  refine opaqH (fun Q' hQ' => ?_)
  refine fr1 (x1 := Str.ofString "palette") (v1 := .ref aP) F' (by with_unfolding_all rfl) (fun m0 F0 => ?_)
  clear F'
  (repeat' (first | (k_unfold; (try dsimp only)) | ((with_reducible show wpAny _ _ (exec (.For (.Tuple _ _ _) (.Name _ _) _ _ _) _) _ _ _); k_here; (rename Fr _ _ _ _ => lF'); k_dflt (refine' For_turns ?F9 ?h9 ?hs9 ?hE9; (case F9 => exact lF'); (case hs9 => (intro _; rfl)); (case hE9 => passes_own); k_whole)) | ((with_reducible show wpAny _ _ (pyIter (.ref _)) _ _ _); (refine Stop.mk ?_)) | walk1 | (dsimp only; walk1) | (leave1; walk_say "STEP leave1"; (try dsimp only)) | fail "no step"))
  unfold Stop
  rename_i A1 _ lA1 _ _ A2 _ lA2 _ A3 _ lA3 _ N9
  refine iter_listTurns (by with_unfolding_all rfl) (by assumption) N9 (.tail _ (.tail _ (.tail _ mP))) rfl rfl ?_
  intro i' l1'
  have a12 : NeA A1 A2 := Nat.ne_of_lt lA2.1
  have a13 : NeA A1 A3 := Nat.ne_of_lt lA3.2.1
  have a23 : NeA A2 A3 := Nat.ne_of_lt lA3.1
  have a1i : NeA A1 i' := Nat.ne_of_lt (l1' _ (.tail _ (.tail _ (.head _))))
  have a2i : NeA A2 i' := Nat.ne_of_lt (l1' _ (.tail _ (.head _)))
  have a3i : NeA A3 i' := Nat.ne_of_lt (l1' _ (.head _))
  refine items_inv (keep := [(aP, _)]) (seJ need [p0, p1, p2, p3] i' A1 A2 A3) ?turn ?kfin _ _ _ (seJ.start (es := [p0, p1, p2, p3]) (by with_unfolding_all rfl) (by with_unfolding_all rfl) (by with_unfolding_all rfl) ?hn ?h1 ?h2 ?h3 ?h4)
  case hn => exact rot3
  case h1 => exact fun q hq => Nat.ne_of_lt (lA1 q hq)
  case h2 => exact fun q hq => Nat.ne_of_lt (AllLt.mem lA2.2 q hq)
  case h3 => exact fun q hq => Nat.ne_of_lt (AllLt.mem lA3.2.2 q hq)
  case h4 => exact fun q hq => Nat.ne_of_lt (l1' q (.tail _ (.tail _ (.tail _ hq))))
  case turn =>
    intro a r m n hI v h tk hv F
    refine seJ.open ok (by show 4 ≤ 8; decide) mp hI hv F (fun l xs ys zs kl T okl hle hl1 hl2 hl3 hn kA1 kA2 kA3 kI F0 hv' => ?_)
    subst hv'
    clear F
    have okr := okl.r
    have okg := okl.g
    have okb := okl.b
    have okz := okl.hz
    have okf1 := okl.f1
    have okn1 := okl.n1
    have okf2 := okl.f2
    have okn2 := okl.n2
    have okf3 := okl.f3
    have okn3 := okl.n3
    refine AllObj.cons (fun o' hc' => ?_)
    refine AllObj.nil (fun N0 => ?_)
    dsimp only at hc'
    have N' : News gH L' h ((i', o') :: (A1, LCg.lst xs) :: (A2, LCg.lst ys) :: (A3, LCg.lst zs) :: kl) := News.less N0 (fun q hq => (List.mem_cons.mp hq).elim (fun e => List.mem_cons.mpr (.inl e)) (fun h => .tail _ (hn q h)))
    clear N0 hn hv N9 hI lA1 lA2 lA3 l1' mp
    refine opaqQ2 (fun Q9 hQ9 => ?_)
    (repeat' (first | (k_unfold; (try dsimp only)) | (with_reducible ((k_here; (with_reducible show wpAny _ _ (call _ [Value.float _ _]) _ _ _); (refine' roundF ?k1 ?k2 ?k3 ?_; (case k1 => with_unfolding_all rfl); (case k2 => assumption); (case k3 => assumption); k_whole)))) | ((with_reducible show wpAny _ _ (binaryOp .Div (Value.int _ _) (Value.int _ _)) _ _ _); with_reducible ((refine' div64 ?k1 ?k2 ?_; (case k1 => with_unfolding_all rfl); (case k2 => assumption); k_whole))) | (with_reducible ((k_here; (with_reducible show wpAny _ _ (call (Value.builtin _) [Value.ref _, _]) _ _ _); (refine' append_L ?k1 ?k2 ?k3 ?k4 ?_; (case k1 => k_asm); (case k2 => k_asm); (case k3 => k_upd); (case k4 => assumption); k_whole); intro _ _ _; (try k_sweep)))) | ((with_reducible show UnrPostW _ _ _ _ _ _ _ _); with_reducible ((refine Stop.mk ?_))) | (with_reducible ((k_here; (with_reducible show wpAny _ _ (call (Value.ref 21) [Value.float _ _, Value.float _ _, Value.float _ _]) _ _ _); ((k_dflt (refine' f_yiq _ _ _ _ _ _ _ _ _ _ _ _ _ _ _ _ _ _ _ _ _ _ _ _ ?qB ?qF ?qX ?qN ?qT ?qK ?qD ?qU ?_)); (case qB => k_asm); (case qF => k_asm); (case qX => k_asm); (case qN => exact News.nil); (case qT => k_asm); (case qK => first | (k_dflt (exact rfl)) | assumption); (case qD => ktr_room); (case qU => ktr_units); k_whole; intro v' new' h' tk' hP' bk'; (obtain ⟨z0', z1', z2', z3', e1', e2'⟩ := hP'); subst e1' e2'; (have uu' := BackK.use bk' (by with_reducible assumption) (List.forall_mem_nil _)); (have F' := BackK.fr bk'); clear bk'; (obtain ⟨N', ap'⟩ := uu'); (have an0' := ApN.mk (ap' _ (List.Mem.head _))); (dsimp only at an0'); clear ap'; (simp only [List.cons_append, List.nil_append] at N'); (revert h' tk' z0' z1' z2' z3' F' N' an0'; intro _ _ _ _ _ _ _ _ _); (try dsimp only); (try k_sweep); (try k_fold))))) | (with_reducible ((k_here; (with_reducible show wpAny _ _ (call (Value.ref 28) [Value.float _ _, Value.float _ _, Value.float _ _]) _ _ _); ((k_dflt (refine' f_hls _ _ _ _ _ _ _ ?p1 _ _ _ _ _ _ _ _ _ _ _ _ _ _ _ _ _ ?qB ?qF ?qX ?qN ?qT ?qK ?qD ?qU ?_)); (case p1 => assumption); (case qB => k_asm); (case qF => k_asm); (case qX => k_asm); (case qN => exact News.nil); (case qT => k_asm); (case qK => first | (k_dflt (exact rfl)) | assumption); (case qD => ktr_room); (case qU => ktr_units); k_whole; intro v' new' h' tk' hP' bk'; (obtain ⟨z0', z1', z2', z3', z4', z5', e1', e2'⟩ := hP'); subst e1' e2'; (have uu' := BackK.use bk' (by with_reducible assumption) (List.forall_mem_nil _)); (have F' := BackK.fr bk'); clear bk'; (obtain ⟨N', ap'⟩ := uu'); (have an0' := ApN.mk (ap' _ (List.Mem.head _))); (dsimp only at an0'); clear ap'; (simp only [List.cons_append, List.nil_append] at N'); (revert h' tk' z0' z1' z2' z3' z4' z5' F' N' an0'; intro _ _ _ _ _ _ _ _ _ _ _); (try dsimp only); (try k_sweep); (try k_fold))))) | (with_reducible ((k_here; (with_reducible show wpAny _ _ (call (Value.ref 35) [Value.float _ _, Value.float _ _, Value.float _ _]) _ _ _); ((k_dflt (refine' f_hsv _ _ _ _ _ _ _ ?p1 _ _ _ _ _ _ _ _ _ _ _ _ _ _ _ _ _ ?qB ?qF ?qX ?qN ?qT ?qK ?qD ?qU ?_)); (case p1 => assumption); (case qB => k_asm); (case qF => k_asm); (case qX => k_asm); (case qN => exact News.nil); (case qT => k_asm); (case qK => first | (k_dflt (exact rfl)) | assumption); (case qD => ktr_room); (case qU => ktr_units); k_whole; intro v' new' h' tk' hP' bk'; (obtain ⟨z0', z1', z2', z3', z4', z5', e1', e2'⟩ := hP'); subst e1' e2'; (have uu' := BackK.use bk' (by with_reducible assumption) (List.forall_mem_nil _)); (have F' := BackK.fr bk'); clear bk'; (obtain ⟨N', ap'⟩ := uu'); (have an0' := ApN.mk (ap' _ (List.Mem.head _))); (dsimp only at an0'); clear ap'; (simp only [List.cons_append, List.nil_append] at N'); (revert h' tk' z0' z1' z2' z3' z4' z5' F' N' an0'; intro _ _ _ _ _ _ _ _ _ _ _); (try dsimp only); (try k_sweep); (try k_fold))))) | ((with_reducible show wpAny _ _ (execs [] _) _ _ _); with_reducible (refine wpAny_execs_nil ?_)) | walk1 | (dsimp only; walk1) | (leave1; walk_say "STEP leave1"; (try dsimp only)) | fail "no step"))
    refine hQ9 _ _ ?_
    dsimp only [UnrPostW]
    rename_i D9 _ l9 _ F9 N9
    refine UnrEndW.intro F9 N9 ((A1, LCg.lst (xs ++ [.float (topX l) _])) :: (A2, LCg.lst (ys ++ [.float (lowX l) _])) :: (A3, LCg.lst (zs ++ [.ref D9])) :: (D9, tupOb #[.int (lum l) _, .int (warm l) _, .int (cool l) _]) :: kl) ⟨.tail _ (.tail _ (.tail _ (.tail _ (.head _)))), trivial⟩ (subL_of sub48) (offW_of (off4 a1i a2i a3i (Nat.ne_of_gt l9.2.2.2.1) kI)) ⟨⟨.tail _ (.tail _ (.tail _ (.tail _ (T.need _ mP)))), trivial⟩, seJ.next T ?e1 ?e2 ?e3 kA1 kA2 kA3 kI (Nat.ne_of_gt l9.2.2.2.2.1) (Nat.ne_of_gt l9.2.2.2.2.2.1) (Nat.ne_of_gt l9.2.2.2.2.2.2.1) (Nat.ne_of_gt l9.2.2.2.1) (fun q hq => Nat.ne_of_lt (AllLt.mem l9.2.2.2.2.2.2.2 q hq))⟩
    case e1 => with_unfolding_all rfl
    case e2 => with_unfolding_all rfl
    case e3 => with_unfolding_all rfl
  case kfin =>
    intro m n hI h tk F N0
    refine seJ.fin ok hI F N0 (fun d0 d1 d2 d3 t K h2 h1 N' F0 => ?_)
    clear F N0 N9 hI lA1 lA2 lA3 l1' mp mP
    (repeat' (first | (k_unfold; (try dsimp only)) | walk1 | (dsimp only; walk1) | (leave1; walk_say "STEP leave1"; (try dsimp only)) | (refine Hl.use (by with_reducible assumption) ?_; dsimp only) | fail "no step"))
    rename_i D9 _ _ _ l9 _ _ _ _
    exact hr _ (seenNew _ A1 A2 A3 d0 d1 d2 d3 t p0 p1 p2 p3) _ _ ⟨_, A1, A2, A3, d0, d1, d2, d3, t, rfl, rfl⟩ (BackK.of hg (by assumption) (by assumption) (by assumption) (by assumption) (h1 _) (h2 _ (fun q hq => Nat.ne_of_lt (l9 q hq))))
end Mine
end
section
open PySem PySem.W PyProof.Rows PySem.Calls
set_option maxRecDepth 100000
set_option maxHeartbeats 0
set_option linter.unusedVariables false
namespace Mine
local macro_rules | `(tactic| walk_at "CompSrc") => `(tactic| (refine Stop.mk ?_))
theorem f_untangled (w : World) (aP aC : Addr) (kA kC : Nat) (p0 p1 p2 p3 c0 c1 c2 c3 : Lamp) (hL : ∀ l, Bd l → LampOk l) (hb : ∀ l ∈ [p0, p1, p2, p3], Bd l) (hN : net5.foldl stepN [tr p0, tr p1, tr p2, tr p3] = [tr c0, tr c1, tr c2, tr c3]) (hC : (c0.r ≤ c1.r ∧ c1.r ≤ c2.r ∧ c2.r ≤ c3.r) ∧ (c0.g ≤ c1.g ∧ c1.g ≤ c2.g ∧ c2.g ≤ c3.g) ∧ (c0.b ≤ c1.b ∧ c1.b ≤ c2.b ∧ c2.b ≤ c3.b)) (need : List (Addr × Obj)) (mP : (aP, W.listOf [Value.ref p0.T, Value.ref p1.T, Value.ref p2.T, Value.ref p3.T].toArray kA) ∈ need) (mC : (aC, W.listOf [Value.ref c0.T, Value.ref c1.T, Value.ref c2.T, Value.ref c3.T].toArray kC) ∈ need) (mp : ∀ l ∈ [p0, p1, p2, p3], lamE l ∈ need) (mc : ∀ l ∈ [c0, c1, c2, c3], lamE l ∈ need) : ClaimF w 100 400 157 need [.ref aP, .ref aC] (fun v new => v = .bool true ∧ new = []) := by
  unfold ClaimF
  k_fill
  intro mean mg mb dp un gd cn cs a ccd cl outer A₀ base h₀ L m s Q E Bz Fz Xz Nz Tz hk hd hu hr
  refine wpAny_call ?_
  k_dflt (refine' enterC ?k1 ?k2 ?k3 ?k4 ?k5 ?kA ?kF ?kK ?k6 ?k7 ?k8 ?k9 ?kB ?kD ?_ ?c2 ?c3 ?c4; (case kA => exact rfl); (case kF => exact rfl); (case kK => assumption); (case k1 => k_asm); (case k2 => k_asm); (case k3 => k_asm); (case k4 => k_asm); (case k5 => k_asm); (case k6 => k_is); (case k7 => k_is); (case k8 => ktr_room); (case k9 => exact BindsTo.of_eq rfl); (case kB => exact rfl); (case kD => decide +kernel); (case c2 => exact rfl); (case c3 => exact rfl); (case c4 => exact rfl); k_whole; intro gH L' h' tk' cells' hg FG' F' N' Y' B' X' T' l1; (try k_lt l1); k_cells Y'; (try simp only [List.cons_append, List.nil_append] at N'); (try dsimp only); (try k_fold))
  rename_i o1 o2 o3 d1 d2 d3
  refine opaqH (fun Q' hQ' => ?_)
  refine fr2 (x1 := Str.ofString "palette") (v1 := .ref aP) (x2 := Str.ofString "chain") (v2 := .ref aC) F' (by with_unfolding_all rfl) (by with_unfolding_all rfl) (fun m0 F0 => ?_)
  clear F'
  obtain ⟨v1, g1⟩ : ∃ v, o1.data = Data.cell v := ⟨_, d1⟩
  obtain ⟨v2, g2⟩ : ∃ v, o2.data = Data.cell v := ⟨_, d2⟩
  obtain ⟨v3, g3⟩ : ∃ v, o3.data = Data.cell v := ⟨_, d3⟩
  clear d1 d2 d3
  have q1 : ∀ q ∈ need, q.1 ≠ L' + 1 := fun q hq => Nat.ne_of_lt (Nat.lt_succ_of_lt (l1 q hq))
  have q2 : ∀ q ∈ need, q.1 ≠ L' + 1 + 1 := fun q hq => Nat.ne_of_lt (Nat.lt_succ_of_lt (Nat.lt_succ_of_lt (l1 q hq)))
  have q3 : ∀ q ∈ need, q.1 ≠ L' + 1 + 1 + 1 := fun q hq => Nat.ne_of_lt (Nat.lt_succ_of_lt (Nat.lt_succ_of_lt (Nat.lt_succ_of_lt (l1 q hq))))
  (repeat' (first | (k_unfold; (try dsimp only)) | ((with_reducible show wpAny _ _ (execs (_ :: _) _) _ _ _); (try k_gentoks); refine execsO ?_; intro _ _) | ((with_reducible show wpAny _ _ (call (Value.ref _) _ _) _ _ _); refine Stop.mk ?_) | walk1 | (dsimp only; walk1) | (leave1; walk_say "STEP leave1"; (try dsimp only)) | (refine Nx.nx (by with_reducible assumption) ?_) | (refine Nx.rt (by with_reducible assumption) ?_) | fail "no step"))
  unfold Stop
  rename_i P cP hP lP hP2 o4 F9 N9 d4 Q8 H8
  refine ledO N9 (fun K eK hK NK => ?_)
  clear eK N9 q1 q2 q3
  k_dflt (refine' f_seen w P cP p0 p1 p2 p3 (fun l hl => hL l (hb l hl)) K (hK _ (.head _)) (fun l h => hK _ (.tail _ (.tail _ (.tail _ (.tail _ (mp l h)))))) _ _ _ _ _ _ _ _ _ _ _ _ _ _ _ _ _ ?qB ?qF ?qX ?qN ?qT ?qK ?qD ?qU ?_)
  case qB => k_asm
  case qF => k_asm
  case qX => k_asm
  case qN => exact NK
  case qT => k_asm
  case qK => first | (k_dflt (exact rfl)) | assumption
  case qD => ktr_room
  case qU => ktr_units
  refine seenBack NK (fun R A1 A2 A3 e0 e1 e2 e3 t S h' tk' hS F' N' ap => ?_)
  clear NK F9
  (try dsimp only)
  (repeat' (first | (k_unfold; (try dsimp only)) | ((with_reducible show wpAny _ _ (execs (_ :: _) _) _ _ _); (try k_gentoks); refine execsO ?_; intro _ _) | ((with_reducible show wpAny _ _ (exec (.For (.Tuple _ _ _) (.Tuple _ _ _) _ _ _) _) _ _ _); k_here; (rename Fr _ _ _ _ => lF'); k_dflt (refine' For_turns ?qfF9 ?qfh9 ?qfhs9 ?qfhE9; (case qfF9 => exact lF'); (case qfhs9 => (intro _; rfl)); (case qfhE9 => passes_own); k_whole)) | ((with_reducible show wpAny _ _ (pyIter (.ref _)) _ _ _); refine Stop.mk ?_) | walk1 | (dsimp only; walk1) | (leave1; walk_say "STEP leave1"; (try dsimp only)) | (refine Nx.nx (by with_reducible assumption) ?_) | (refine Nx.rt (by with_reducible assumption) ?_) | fail "no step"))
  unfold Stop
  rename News _ _ _ _ => N9
  refine iter_tupTurns (by with_unfolding_all rfl) (by assumption) N9 (.head _) rfl rfl ?_
  intro I lI
  rename_i D5 h5 l5 D4 h4 l4 D3 h3 l3 D2 h2 l2 D1 h1 l9 D0 h0 F9 l0
  have hPK : (P, _) ∈ S ++ K := List.mem_append_right _ (hK _ (.head _))
  refine items_inv (unJ P cP L' I aC ((D0, tupOb #[.ref D5, .ref D4, .ref D3, .ref D2, .ref D1]) :: need) [tr c0, tr c1, tr c2, tr c3]) ?turn ?kfin _ _ _ (unJ.start hS (by with_unfolding_all rfl) (by with_unfolding_all rfl) (fun q hq => hq) hK ap ?hD ?hI lP.1 l1 g1 g2 d4 mp hb hN)
  case hD =>
    simp only [List.forall_mem_cons]
    exact ⟨AllLt.mem l0.2.2.2.2.2 _ hPK, AllLt.mem l9.2.2.2.2 _ hPK, AllLt.mem l2.2.2.2 _ hPK, AllLt.mem l3.2.2 _ hPK, AllLt.mem l4.2 _ hPK, l5 _ hPK, List.forall_mem_nil _⟩
  case hI => exact lI
  case turn =>
    have lPI : (@LT.lt Nat _ P I) := lI _ (.tail _ (.tail _ (.tail _ (.tail _ (.tail _ (.tail _ hPK))))))
    have lP1 := lP.1
    clear N9 l5 l4 l3 l2 l9 l0 lI lP ap g1 g2 g3 d4 hPK hS hK
    intro a r m n hI v h tk hv F
    refine unJ.open hI hv F (fun R A1 A2 A3 e0 e1 e2 e3 t x0 x1 x2 x3 la lb oO oN oL vO vN kl q i j ti tj ps vs iI jI T mq mla mlb hva hvb hi8 hj8 hil hjl hin dO dN dL kP k1 k2 k3 kI F0 hv' => ?_)
    subst hv'
    clear F hI hv F9
    refine AllObj.cons (fun o' hc' => ?_)
    refine AllObj.nil (fun N0 => ?_)
    dsimp only at hc'
    have N' : News gH L' h ((I, o') :: (P, W.listOf vs.toArray cP) :: (L' + 1 + 1 + 1, oO) :: (L' + 1 + 1, oN) :: (L' + 1, oL) :: kl) := News.less N0 (fun q hq => (List.mem_cons.mp hq).elim (fun e => List.mem_cons.mpr (.inl e)) (fun h => .tail _ (hin q h)))
    clear N0 hin
    have aIP : NeA I P := Nat.ne_of_gt lPI
    have aPc : NeA P (L' + 1 + 1 + 1) := Nat.ne_of_gt lP1
    have aIc : NeA I (L' + 1 + 1 + 1) := Nat.ne_of_gt (Nat.lt_trans lP1 lPI)
    have aPd : NeA P (L' + 1 + 1) := Nat.ne_of_gt (Nat.lt_trans (Nat.lt_succ_self _) lP1)
    have aId : NeA I (L' + 1 + 1) := Nat.ne_of_gt (Nat.lt_trans (Nat.lt_trans (Nat.lt_succ_self _) lP1) lPI)
    refine opaqQ2 (fun Q9 hQ9 => ?_)
    (repeat' (first | (k_unfold; (try dsimp only)) | ((with_reducible show wpAny _ _ (execs (_ :: _) _) _ _ _); (try k_gentoks); refine execsO ?_; intro _ _) | ((with_reducible show LCg.CompSrc _ _ _ _ _ _ _ _ _ _ _ _ _ _); refine Stop.mk ?_) | walk1 | (dsimp only; walk1) | (leave1; walk_say "STEP leave1"; (try dsimp only)) | (refine Nx.nx (by with_reducible assumption) ?_) | (refine Nx.rt (by with_reducible assumption) ?_) | fail "no step"))
    unfold Stop
    rename News _ _ _ _ => N9
    (rename (_ = Data.cell (some (Value.int iI ti))) => dN9)
    (rename (_ = Data.cell (some (Value.int jI tj))) => dO9)
    refine ledO N9 (fun K eK hK NK => ?_)
    clear eK N9
    have mP := hK _ (.tail _ (.head _))
    have mc3 := hK _ (.tail _ (.tail _ (.head _)))
    have mc2 := hK _ (.tail _ (.tail _ (.tail _ (.head _))))
    have mc1 := hK _ (.tail _ (.tail _ (.tail _ (.tail _ (.head _)))))
    have mla := hK _ (.tail _ (.tail _ (.tail _ (.tail _ (.tail _ mla)))))
    have mlb := hK _ (.tail _ (.tail _ (.tail _ (.tail _ (.tail _ mlb)))))
    refine LCg.CompSrc.range (by with_unfolding_all rfl) (by assumption) NK (by assumption) (by first | decide | rfl) (by first | rfl | decide) (by first | size_fits | exact Nat.le_of_ble_eq_true rfl) ?_
    clear NK
    intro g'
    refine restI_inv (PairsK la lb K) (fun i v I2 oI2 C oC D m2 ys n h tk E' hi hv hI hC hx F N off ne => ?pair) (fun ys n hI => ?fin) ⟨rfl, rfl⟩
    case pair =>
      obtain ⟨t9, rfl⟩ := hv
      replace mP := hI.sub _ mP
      replace mc3 := hI.sub _ mc3
      replace mc2 := hI.sub _ mc2
      replace mc1 := hI.sub _ mc1
      replace mla := hI.sub _ mla
      replace mlb := hI.sub _ mlb
      clear hK
      (repeat' (first | (k_unfold; (try dsimp only)) | ((with_reducible show wpAny _ _ (execs (_ :: _) _) _ _ _); (try k_gentoks); refine execsO ?_; intro _ _) | ((with_reducible show wpAny _ _ (subscriptTail _ _ (Value.ref _) (Value.int (0 + _) _)) _ _ _); with_reducible (k_here; k_dflt (refine' item_anyT ?qat ?qai ?qaa ?qab ?qac ?_; (case qat => exact News.isTup (by k_asm) (by k_mem)); (case qai => exact .cons _ _ (.cons _ _ (.cons _ _ .nil))); (case qaa => exact part0 _); (case qab => exact part1 (by with_reducible assumption)); (case qac => exact part2 (by with_reducible assumption)); k_whole); intro _)) | ((with_reducible show wpAny _ _ (subscriptTail _ _ (Value.ref _) (Value.int _ _)) _ _ _); with_reducible (k_here; k_dflt (first | (refine' item_tupleT ?qtt ?qta ?qtb ?qtc ?qtd ?_; (case qtt => exact News.isTup (by k_asm) (by k_mem)); (case qta => decide); (case qtb => decide); (case qtc => rfl); (case qtd => rfl); k_whole) | (refine' item_Li ?qlN ?qlm ?qlk ?qlx ?_ ?qls; (case qlN => k_asm); (case qlm => k_mem); (case qlk => first | with_reducible assumption | decide); (case qlx => first | with_reducible assumption | rfl); (case qls => rfl); k_whole)))) | ((with_reducible show wpAny _ _ (call (Value.builtin "sorted") [Value.ref _]) _ _ _); with_reducible (k_here; (refine' sorted2 ?qok1 ?qok2 ?qok3 ?_; (case qok1 => k_asm); (case qok2 => k_asm); (case qok3 => k_mem); k_whole); intro _ _ _ _ _ _ _ l1; (try k_lt l1); (try (revert l1; intro _)); (try k_sweep))) | ((with_reducible show LCg.CompEnd _ _ _ _ _ _ _ _ _ _ _ _ _ _); refine Stop.mk ?_) | walk1 | (dsimp only; walk1) | (leave1; walk_say "STEP leave1"; (try dsimp only)) | (refine Nx.nx (by with_reducible assumption) ?_) | (refine Nx.rt (by with_reducible assumption) ?_) | fail "no step"))
      unfold Stop
      rename_i l9 h9 ll9 S0 tm tx kk hS F9 N9 lS
      exact LCg.CompEnd.intro F9 N9 ((S0, mmO _ _ tm tx kk) :: n) sub5 ⟨⟨Nat.ne_of_gt lS.2.1, Nat.ne_of_gt lS.2.2.1, Nat.ne_of_gt lS.2.2.2.1⟩, off⟩ trivial ⟨ys, n, S0, tm, tx, kk, rfl, rfl, lS.2.2.2.2, hI⟩
    case fin =>
      clear mP mc3 mc2 mc1 mla mlb
      unfold LCg.FinA
      intro Dp hp tkp Fp Np offp
      refine un_pack Np hI hK (off1_mem offp) kP aIP (Nat.ne_of_lt (Nat.lt_trans (Nat.lt_succ_self _) (Nat.lt_trans (Nat.lt_succ_self _) lP1))) (Nat.ne_of_lt (Nat.lt_trans (Nat.lt_succ_self _) lP1)) (Nat.ne_of_lt lP1) (fun S0 S1 S2 t0 t1 t2 u0 u1 u2 z0 z1 z2 K2 N2 oP mD mS0 mS1 mS2 mI mc3 mc2 mc1 mkl => ?_)
      clear Np hI offp hK
      (repeat' (first | (k_unfold; (try dsimp only)) | ((with_reducible show wpAny _ _ (execs (_ :: _) _) _ _ _); (try k_gentoks); refine execsO ?_; intro _ _) | ((with_reducible show wpAny _ _ (subscriptTail _ _ (Value.ref _) (Value.int _ _)) _ _ _); with_reducible (k_here; k_dflt (first | (refine' item_tupleT ?qtt ?qta ?qtb ?qtc ?qtd ?_; (case qtt => exact News.isTup (by k_asm) (by k_mem)); (case qta => decide); (case qtb => decide); (case qtc => rfl); (case qtd => rfl); k_whole) | (refine' item_Li ?qlN ?qlm ?qlk ?qlx ?_ ?qls; (case qlN => k_asm); (case qlm => k_mem); (case qlk => first | with_reducible assumption | decide); (case qlx => first | with_reducible assumption | rfl); (case qls => rfl); k_whole)))) | ((with_reducible show wpAny _ _ (setItem (Value.ref _) (Value.int _ _) _) _ _ _); with_reducible (k_here; k_dflt (refine' set_Li ?qsF ?qsN ?qsU ?qsk ?qsl ?_; (case qsF => k_asm); (case qsN => k_asm); (case qsU => k_upd); (case qsk => with_reducible assumption); (case qsl => first | with_reducible assumption | (rw [List.length_set]; with_reducible assumption)); k_whole); intro _ _ _)) | ((with_reducible show wpAny _ _ (call (Value.ref _) _ _) _ _ _); refine Stop.mk ?_) | walk1 | (dsimp only; walk1) | (leave1; walk_say "STEP leave1"; (try dsimp only)) | (refine Nx.nx (by with_reducible assumption) ?_) | (refine Nx.rt (by with_reducible assumption) ?_) | fail "no step"))
      unfold Stop
      rename_i T1 h1 lT1 h2 tkA Q8 H8 T2 h3 F8 N8 lT2 h4 F9 N9 Q7 H7
      refine T.meetN N9 (fun y0 y1 y2 y3 la' lb' eT1 eT2 NM M => ?_)
      refine ledO NM (fun LL eL hLL NL => ?_)
      clear eL N9 N8 NM F8 mD mS0 mS1 mS2
      have mT1 : lamE la' ∈ LL := hLL _ (.tail _ (.head _))
      have mT2 : lamE lb' ∈ LL := hLL _ (.head _)
      have mP : (P, _) ∈ LL := hLL _ (.tail _ (.tail _ (.head _)))
      have hL2 : ∀ q ∈ (P, _) :: K2, q ∈ LL := fun q hq => hLL q (.tail _ (.tail _ hq))
      have mkL : ∀ q ∈ kl, q ∈ LL := fun q hq => hL2 _ (.tail _ (mkl q hq))
      have lt := ltK (oP := W.listOf [Value.ref y0.T, .ref y1.T, .ref y2.T, .ref y3.T].toArray cP) eT1 eT2 lT1 lT2
      have mc3L := hL2 _ (.tail _ mc3)
      clear hLL mkl lT1 lT2 oP
      k_dflt (refine' f_seen w P cP y0 y1 y2 y3 (fun l hl => hL l (M.bd l hl)) LL mP (M.need mT1 mT2 mkL) _ _ _ _ _ _ _ _ _ _ _ _ _ _ _ _ _ ?qB ?qF ?qX ?qN ?qT ?qK ?qD ?qU ?_)
      case qB => k_asm
      case qF => k_asm
      case qX => k_asm
      case qN => exact NL
      case qT => k_asm
      case qK => first | (k_dflt (exact rfl)) | assumption
      case qD => ktr_room
      case qU => ktr_units
      refine seenBack NL (fun R2 B1 B2 B3 f0 f1 f2 f3 u S h' tk' hS F' N' ap => ?_)
      clear NL F9
      (try dsimp only)
      (repeat' (first | (k_unfold; (try dsimp only)) | ((with_reducible show wpAny _ _ (execs (_ :: _) _) _ _ _); (try k_gentoks); refine execsO ?_; intro _ _) | ((with_reducible show wpAny _ _ (call (Value.ref _) _ _) _ _ _); refine Stop.mk ?_) | walk1 | (dsimp only; walk1) | (leave1; walk_say "STEP leave1"; (try dsimp only)) | (refine Nx.nx (by with_reducible assumption) ?_) | (refine Nx.rt (by with_reducible assumption) ?_) | fail "no step"))
      unfold Stop
      k_dflt (refine' f_no_worse w R A1 A2 A3 e0 e1 e2 e3 R2 B1 B2 B3 f0 f1 f2 f3 t u x0 x1 x2 x3 y0 y1 y2 y3 (bd8 T.bd M.bd) M.out.top M.out.maj M.out.low M.out.s1 M.out.s2 M.out.s3 (S ++ LL) (fun q hq => List.mem_append_right _ (mkL q (T.seen q hq))) (fun q hq => List.mem_append_left _ (hS ▸ hq)) _ _ _ _ _ _ _ _ _ _ _ _ _ _ _ _ _ ?qB ?qF ?qX ?qN ?qT ?qK ?qD ?qU ?_)
      case qB => k_asm
      case qF => k_asm
      case qX => k_asm
      case qN => k_asm
      case qT => k_asm
      case qK => first | (k_dflt (exact rfl)) | assumption
      case qD => ktr_room
      case qU => ktr_units
      refine trueBack (by assumption) (fun h' tk' F' N' => ?_)
      (try dsimp only)
      (repeat' (first | (k_unfold; (try dsimp only)) | ((with_reducible show wpAny _ _ (execs (_ :: _) _) _ _ _); (try k_gentoks); refine execsO ?_; intro _ _) | ((with_reducible show wpAny _ _ (execs [] _) _ _ _); refine wpAny_execs_nil ?_) | walk1 | (dsimp only; walk1) | (leave1; walk_say "STEP leave1"; (try dsimp only)) | (refine Nx.nx (by with_reducible assumption) ?_) | (refine Nx.rt (by with_reducible assumption) ?_) | fail "no step"))
      refine hQ9 _ _ ?_
      dsimp only [UnrPostW]
      rename Fr _ _ _ _ => FE
      rename News _ _ _ _ => NE
      refine UnrEndW.intro FE NE _ ⟨List.mem_append_right _ (hL2 _ (.tail _ mI)), trivial⟩ (subL_of (un_sub hL2 mc3 mc2 mc1 mT1 mT2 mkL)) (offW_of (off5 (Nat.ne_of_lt lPI) (Nat.ne_of_lt (Nat.lt_trans lP1 lPI)) (Nat.ne_of_lt (Nat.lt_trans (Nat.lt_trans (Nat.lt_succ_self _) lP1) lPI)) (Nat.ne_of_lt (Nat.lt_trans (Nat.lt_trans (Nat.lt_succ_of_lt (Nat.lt_succ_self _)) lP1) lPI)) (un_off ap (hL2 _ (.tail _ mI)) (lt _ (.tail _ mI)).1 (lt _ (.tail _ mI)).2 kI rfl rfl))) ⟨⟨.tail _ (.tail _ (.tail _ (.tail _ (List.mem_append_right _ (.tail _ (.tail _ (T.kst _ (.head _)))))))), trivial⟩, (unJ.next (aC := aC) T M hS (by with_unfolding_all exact rfl) (by with_unfolding_all exact rfl) dO9 dN9 dL ap hL2 lt mI mc3 mc2 mc1 kP k1 k2 k3 kI).2⟩
  case kfin =>
    clear N9 l5 l4 l3 l2 l9 l0 lI lP ap g1 g2 g3 d4 hPK hS hK F9
    intro m n hI h tk F N0
    refine unJ.fin hI F N0 (fun R A1 A2 A3 e0 e1 e2 e3 t x0 x1 x2 x3 oL K N' mP mcl dL hse hlx hks hBd htr F' => ?_)
    have hks := fun q hq => hks q (.tail _ hq)
    replace mC := hks _ mC
    have mR := hse _ (.head _)
    have mA1 := hse _ (.tail _ (.head _))
    have mA2 := hse _ (.tail _ (.tail _ (.head _)))
    have mA3 := hse _ (.tail _ (.tail _ (.tail _ (.head _))))
    have hasc := asc_of htr hC
    clear F N0 hI
    (repeat' (first | (k_unfold; (try dsimp only)) | ((with_reducible show wpAny _ _ (execs (_ :: _) _) _ _ _); (try k_gentoks); refine execsO ?_; intro _ _) | ((with_reducible show wpAny _ _ (subscriptTail _ _ (Value.ref _) (Value.int _ _)) _ _ _); with_reducible (k_here; k_dflt (first | (refine' item_tupleT ?qtt ?qta ?qtb ?qtc ?qtd ?_; (case qtt => exact News.isTup (by k_asm) (by k_mem)); (case qta => decide); (case qtb => decide); (case qtc => rfl); (case qtd => rfl); k_whole) | (refine' item_Li ?qlN ?qlm ?qlk ?qlx ?_ ?qls; (case qlN => k_asm); (case qlm => k_mem); (case qlk => first | with_reducible assumption | decide); (case qlx => first | with_reducible assumption | rfl); (case qls => rfl); k_whole)))) | ((with_reducible show LCg.CompSrc _ _ _ _ _ _ _ _ _ _ _ _ _ _); refine Stop.mk ?_) | walk1 | (dsimp only; walk1) | (leave1; walk_say "STEP leave1"; (try dsimp only)) | (refine Nx.nx (by with_reducible assumption) ?_) | (refine Nx.rt (by with_reducible assumption) ?_) | fail "no step"))
    unfold Stop
    refine comp_led (fun i y => ∃ t, y = .int ([lum x0, lum x1, lum x2, lum x3].getD i 0) t) (by with_unfolding_all rfl) (by k_asm) (by k_asm) mA3 (by show 4 ≤ 8; decide) (fun g' i' v' I' oI' C' oC' D' m' ys' h' tk' E' hv' hC' hx' F' N' off' ne' => ?_) (fun g' zs hzl hzr => ?_)
    · refine lum4 hse hv' (fun e n u y z hv mem hn => ?_)
      subst hv
      clear hv'
      (repeat' (first | (k_unfold; (try dsimp only)) | ((with_reducible show wpAny _ _ (execs (_ :: _) _) _ _ _); (try k_gentoks); refine execsO ?_; intro _ _) | ((with_reducible show wpAny _ _ (subscriptTail _ _ (Value.ref _) (Value.int _ _)) _ _ _); with_reducible (k_here; k_dflt (first | (refine' item_tupleT ?qtt ?qta ?qtb ?qtc ?qtd ?_; (case qtt => exact News.isTup (by k_asm) (by k_mem)); (case qta => decide); (case qtb => decide); (case qtc => rfl); (case qtd => rfl); k_whole) | (refine' item_Li ?qlN ?qlm ?qlk ?qlx ?_ ?qls; (case qlN => k_asm); (case qlm => k_mem); (case qlk => first | with_reducible assumption | decide); (case qlx => first | with_reducible assumption | rfl); (case qls => rfl); k_whole)))) | ((with_reducible show LCg.CompEnd _ _ _ _ _ _ _ _ _ _ _ _ _ _); refine Stop.mk ?_) | walk1 | (dsimp only; walk1) | (leave1; walk_say "STEP leave1"; (try dsimp only)) | (refine Nx.nx (by with_reducible assumption) ?_) | (refine Nx.rt (by with_reducible assumption) ?_) | fail "no step"))
      unfold Stop
      exact LCg.CompEnd.intro (by assumption) (by assumption) _ (fun p hp => hp) off' (.inr ⟨_, mA3, rfl, _, rfl⟩) ⟨rfl, _, congrArg (Value.int · u) hn.symm⟩
    · have hi1 := ints_of_rel (ns := [lum x0, lum x1, lum x2, lum x3]) hzl hzr
      clear hzr hzl
      unfold LCg.FinA
      intro D2 h2 tk2 F2 N2 off2
      (repeat' (first | (k_unfold; (try dsimp only)) | ((with_reducible show wpAny _ _ (execs (_ :: _) _) _ _ _); (try k_gentoks); refine execsO ?_; intro _ _) | ((with_reducible show wpAny _ _ (compareOp .Eq (Value.ref _) (Value.ref _)) _ _ _); refine Stop.mk ?_) | walk1 | (dsimp only; walk1) | (leave1; walk_say "STEP leave1"; (try dsimp only)) | (refine Nx.nx (by with_reducible assumption) ?_) | (refine Nx.rt (by with_reducible assumption) ?_) | fail "no step"))
      unfold Stop
      rename News _ _ _ _ => N9
      refine eq_lamps (x0 := x0) (x1 := x1) (x2 := x2) (x3 := x3) (c0 := c0) (c1 := c1) (c2 := c2) (c3 := c3) N9 (by k_mem) (by k_mem) (fun x hx => .tail _ (hlx x hx)) (fun x hx => .tail _ (hks _ (mc x hx))) htr (by ke_room) ?_
      (repeat' (first | (k_unfold; (try dsimp only)) | ((with_reducible show wpAny _ _ (execs (_ :: _) _) _ _ _); (try k_gentoks); refine execsO ?_; intro _ _) | ((with_reducible show wpAny _ _ (subscriptTail _ _ (Value.ref _) (Value.int _ _)) _ _ _); with_reducible (k_here; k_dflt (first | (refine' item_tupleT ?qtt ?qta ?qtb ?qtc ?qtd ?_; (case qtt => exact News.isTup (by k_asm) (by k_mem)); (case qta => decide); (case qtb => decide); (case qtc => rfl); (case qtd => rfl); k_whole) | (refine' item_Li ?qlN ?qlm ?qlk ?qlx ?_ ?qls; (case qlN => k_asm); (case qlm => k_mem); (case qlk => first | with_reducible assumption | decide); (case qlx => first | with_reducible assumption | rfl); (case qls => rfl); k_whole)))) | ((with_reducible show wpAny _ _ (call (Value.builtin "sorted") _ _) _ _ _); refine Stop.mk ?_) | walk1 | (dsimp only; walk1) | (leave1; walk_say "STEP leave1"; (try dsimp only)) | (refine Nx.nx (by with_reducible assumption) ?_) | (refine Nx.rt (by with_reducible assumption) ?_) | fail "no step"))
      unfold Stop
      rename News _ _ _ _ => N9
      have hb0 := (hBd x0 (.head _)).mx
      have hb1 := (hBd x1 (.tail _ (.head _))).mx
      have hb2 := (hBd x2 (.tail _ (.tail _ (.head _)))).mx
      have hb3 := (hBd x3 (.tail _ (.tail _ (.tail _ (.head _))))).mx
      refine sorted_fi_asc hb0.1 hb1.1 hb2.1 hb3.1 hasc.1 (by k_asm) N9 (by k_mem) (fun S1 k1 h1 F1 N1 l1 => ?_)
      clear l1
      (repeat' (first | (k_unfold; (try dsimp only)) | ((with_reducible show wpAny _ _ (execs (_ :: _) _) _ _ _); (try k_gentoks); refine execsO ?_; intro _ _) | ((with_reducible show wpAny _ _ (compareOp .Eq (Value.ref _) (Value.ref _)) _ _ _); refine Stop.mk ?_) | walk1 | (dsimp only; walk1) | (leave1; walk_say "STEP leave1"; (try dsimp only)) | (refine Nx.nx (by with_reducible assumption) ?_) | (refine Nx.rt (by with_reducible assumption) ?_) | fail "no step"))
      unfold Stop
      rename News _ _ _ _ => N9
      refine eq_same4 N9 (by k_mem) (by k_mem) (by ke_room) ?_
      (repeat' (first | (k_unfold; (try dsimp only)) | ((with_reducible show wpAny _ _ (execs (_ :: _) _) _ _ _); (try k_gentoks); refine execsO ?_; intro _ _) | ((with_reducible show wpAny _ _ (subscriptTail _ _ (Value.ref _) (Value.int _ _)) _ _ _); with_reducible (k_here; k_dflt (first | (refine' item_tupleT ?qtt ?qta ?qtb ?qtc ?qtd ?_; (case qtt => exact News.isTup (by k_asm) (by k_mem)); (case qta => decide); (case qtb => decide); (case qtc => rfl); (case qtd => rfl); k_whole) | (refine' item_Li ?qlN ?qlm ?qlk ?qlx ?_ ?qls; (case qlN => k_asm); (case qlm => k_mem); (case qlk => first | with_reducible assumption | decide); (case qlx => first | with_reducible assumption | rfl); (case qls => rfl); k_whole)))) | ((with_reducible show wpAny _ _ (call (Value.builtin "sorted") _ _) _ _ _); refine Stop.mk ?_) | walk1 | (dsimp only; walk1) | (leave1; walk_say "STEP leave1"; (try dsimp only)) | (refine Nx.nx (by with_reducible assumption) ?_) | (refine Nx.rt (by with_reducible assumption) ?_) | fail "no step"))
      unfold Stop
      rename News _ _ _ _ => N9
      refine sorted_fi_asc hb0.2 hb1.2 hb2.2 hb3.2 hasc.2.1 (by k_asm) N9 (by k_mem) (fun S2 k2 h2 F2 N2 l2 => ?_)
      clear l2
      (repeat' (first | (k_unfold; (try dsimp only)) | ((with_reducible show wpAny _ _ (execs (_ :: _) _) _ _ _); (try k_gentoks); refine execsO ?_; intro _ _) | ((with_reducible show wpAny _ _ (compareOp .Eq (Value.ref _) (Value.ref _)) _ _ _); refine Stop.mk ?_) | walk1 | (dsimp only; walk1) | (leave1; walk_say "STEP leave1"; (try dsimp only)) | (refine Nx.nx (by with_reducible assumption) ?_) | (refine Nx.rt (by with_reducible assumption) ?_) | fail "no step"))
      unfold Stop
      rename News _ _ _ _ => N9
      refine eq_same4 N9 (by k_mem) (by k_mem) (by ke_room) ?_
      (repeat' (first | (k_unfold; (try dsimp only)) | ((with_reducible show wpAny _ _ (execs (_ :: _) _) _ _ _); (try k_gentoks); refine execsO ?_; intro _ _) | ((with_reducible show wpAny _ _ (subscriptTail _ _ (Value.ref _) (Value.int _ _)) _ _ _); with_reducible (k_here; k_dflt (first | (refine' item_tupleT ?qtt ?qta ?qtb ?qtc ?qtd ?_; (case qtt => exact News.isTup (by k_asm) (by k_mem)); (case qta => decide); (case qtb => decide); (case qtc => rfl); (case qtd => rfl); k_whole) | (refine' item_Li ?qlN ?qlm ?qlk ?qlx ?_ ?qls; (case qlN => k_asm); (case qlm => k_mem); (case qlk => first | with_reducible assumption | decide); (case qlx => first | with_reducible assumption | rfl); (case qls => rfl); k_whole)))) | ((with_reducible show wpAny _ _ (call (Value.builtin "sorted") _ _) _ _ _); refine Stop.mk ?_) | walk1 | (dsimp only; walk1) | (leave1; walk_say "STEP leave1"; (try dsimp only)) | (refine Nx.nx (by with_reducible assumption) ?_) | (refine Nx.rt (by with_reducible assumption) ?_) | fail "no step"))
      unfold Stop
      rename News _ _ _ _ => N9
      refine sorted_int_asc hasc.2.2 (by k_asm) N9 hi1 (by k_mem) (fun S3 vs3 k3 h3 F3 N3 l3 hi3 => ?_)
      clear l3
      (repeat' (first | (k_unfold; (try dsimp only)) | ((with_reducible show wpAny _ _ (execs (_ :: _) _) _ _ _); (try k_gentoks); refine execsO ?_; intro _ _) | ((with_reducible show wpAny _ _ (compareOp .Eq (Value.ref _) (Value.ref _)) _ _ _); refine Stop.mk ?_) | walk1 | (dsimp only; walk1) | (leave1; walk_say "STEP leave1"; (try dsimp only)) | (refine Nx.nx (by with_reducible assumption) ?_) | (refine Nx.rt (by with_reducible assumption) ?_) | fail "no step"))
      unfold Stop
      rename News _ _ _ _ => N9
      refine eq_ints_same N9 (by k_mem) (by k_mem) hi1 hi3 (by ke_room) ?_
      (repeat' (first | (k_unfold; (try dsimp only)) | ((with_reducible show wpAny _ _ (execs (_ :: _) _) _ _ _); (try k_gentoks); refine execsO ?_; intro _ _) | walk1 | (dsimp only; walk1) | (leave1; walk_say "STEP leave1"; (try dsimp only)) | (refine Nx.nx (by with_reducible assumption) ?_) | (refine Nx.rt (by with_reducible assumption) ?_) | fail "no step"))
      refine hQ' _ _ ?_
      dsimp only
      (repeat' (first | (k_unfold; (try dsimp only)) | ((with_reducible show wpAny _ _ (execs (_ :: _) _) _ _ _); (try k_gentoks); refine execsO ?_; intro _ _) | walk1 | (dsimp only; walk1) | (leave1; walk_say "STEP leave1"; (try dsimp only)) | (refine Nx.nx (by with_reducible assumption) ?_) | (refine Nx.rt (by with_reducible assumption) ?_) | fail "no step"))
      refine hr _ [] _ _ ⟨rfl, rfl⟩ (BackK.of hg (by assumption) (by assumption) (by assumption) (by assumption) ?_ ?_)
      · intro q hq
        have := hks q hq
        k_mem
      · intro q hq
        exact nomatch hq
end Mine
end
end
end
end
section
open PySem PySem.W PyProof.Rows PySem.Calls
set_option maxRecDepth 100000
set_option linter.unusedVariables false
namespace Mine
abbrev ClaimG (w : World) (r u : Nat) (f : Addr) (need : List (Addr × Obj)) (vs : List Value) (P : Value → List (Addr × Obj) → Prop) : Prop :=
  ∀ {mean : ExcName → Option Value} {mg mb : Str → Option Value} (dp un : Nat) (gd : Option (List Code)) (cn : Str) (cs : Scope) (a : Addr) (ccd : Value) (cl : List (Str × Addr)) (outer : List Env) (A₀ : Around) (base h₀ : Heap) (L : Addr) (m : Str → Option Value) (s : Shared) (Q E : Value → Shared → Prop),
    Below A₀ base outer h₀ → Fr h₀ L s.heap m → (heapK w.params).In h₀ → News h₀ L s.heap need → Top viewQ (looseW viewQ looseQ) mean mg mb h₀ → cs.kind = .function → dp + r < recursionLimit → un + u < cLine →
    (∀ v new h' tk' G', P v new → (AllBare s.gens → AllBare G') → BackK h₀ L m s.heap need new h' → Q v { s with heap := h', toks := tk', gens := G' }) →
    wpAny (model lawRow.prog w) (ktrTop dp un gd cn cs L a ccd cl outer) (call (.ref f) vs) Q E s
noncomputable def rowS (n : Int) : List Int :=
  if (n.fdiv 50625).fmod 4 = 0 then [szv n 0, szv n 1, szv n 2, szv n 3] else if (n.fdiv 50625).fmod 4 = 1 then [szv n 0, szv n 1, 0, szv n 2]
  else if (n.fdiv 50625).fmod 4 = 2 then [szv n 0, 0, szv n 1] else [szv n 0, szv n 1, szv n 2, 127, szv n 3]
theorem rowS0 {n : Int} (h : (n.fdiv 50625).fmod 4 = 0) : rowS n = [szv n 0, szv n 1, szv n 2, szv n 3] := by unfold rowS; rw [if_pos h]
theorem rowS1 {n : Int} (h : (n.fdiv 50625).fmod 4 = 1) : rowS n = [szv n 0, szv n 1, 0, szv n 2] := by unfold rowS; rw [if_neg (by lia), if_pos h]
theorem rowS2 {n : Int} (h : (n.fdiv 50625).fmod 4 = 2) : rowS n = [szv n 0, 0, szv n 1] := by unfold rowS; rw [if_neg (by lia), if_neg (by lia), if_pos h]
theorem rowS3 {n : Int} (h : (n.fdiv 50625).fmod 4 = 3) : rowS n = [szv n 0, szv n 1, szv n 2, 127, szv n 3] := by unfold rowS; rw [if_neg (by lia), if_neg (by lia), if_neg (by lia)]
theorem kind4 (n : Int) : (n.fdiv 50625).fmod 4 = 0 ∨ (n.fdiv 50625).fmod 4 = 1 ∨ (n.fdiv 50625).fmod 4 = 2 ∨ (n.fdiv 50625).fmod 4 = 3 := by
  have h1 := Int.fmod_nonneg_of_pos (n.fdiv 50625) (b := 4) (by lia)
  have h2 := Int.fmod_lt_of_pos (n.fdiv 50625) (b := 4) (by lia)
  lia
theorem szv_b (n : Int) (k : Nat) : 0 < szv n k ∧ szv n k ≤ 15 := by
  have h1 := Int.fmod_nonneg_of_pos (n.fdiv (15 ^ k)) (b := 15) (by lia)
  have h2 := Int.fmod_lt_of_pos (n.fdiv (15 ^ k)) (b := 15) (by lia)
  unfold szv
  lia
noncomputable def mkS (n : Int) : List Int := List.replicate (4 - (run 0 (gi 4 none (rowS n))).length) 0 ++ run 0 (gi 4 none (rowS n))
theorem rowOf {h : Heap} {Lg row : Addr} (_ns : h.Ns Lg (fun x => if x = nmG then some (.ref row) else none)) : ∃ r, r = row := ⟨_, rfl⟩
theorem ints3 {ys : List Value} {a b c : Int} (h : IntsAre ys [a, b, c]) : ∃ t u x, ys = [.int a t, .int b u, .int c x] := by
  cases h with | cons _ t h => cases h with | cons _ u h => cases h with | cons _ x h => cases h; exact ⟨t, u, x, rfl⟩
theorem gi_step {n : Nat} {last : Option Int} {x : Int} {r : List Int} (h : 0 < x ∧ x ≤ 15) : gi (n + 1) last (x :: r) = x :: gi n (some x) r := by
  show (if x = 127 then [] else if x = 0 then _ else _) = _
  rw [if_neg (by lia), if_neg (by lia)]
theorem gi_zero {n : Nat} {l : Int} {r : List Int} : gi (n + 1) (some l) (0 :: r) = List.replicate (n + 1) l := by
  show (if (0 : Int) = 127 then [] else if (0 : Int) = 0 then _ else _) = _
  rw [if_neg (by lia), if_pos rfl]
theorem gi_end {n : Nat} {last : Option Int} {r : List Int} : gi (n + 1) last (127 :: r) = [] := by
  show (if (127 : Int) = 127 then [] else _) = _
  rw [if_pos rfl]
theorem gi_row0 {n : Int} (h : (n.fdiv 50625).fmod 4 = 0) : gi 4 none (rowS n) = [szv n 0, szv n 1, szv n 2, szv n 3] := by
  rw [rowS0 h, gi_step (szv_b n 0), gi_step (szv_b n 1), gi_step (szv_b n 2), gi_step (szv_b n 3)]; rfl
theorem gi_row1 {n : Int} (h : (n.fdiv 50625).fmod 4 = 1) : gi 4 none (rowS n) = [szv n 0, szv n 1, szv n 1, szv n 1] := by
  rw [rowS1 h, gi_step (szv_b n 0), gi_step (szv_b n 1), gi_zero]; rfl
theorem gi_row2 {n : Int} (h : (n.fdiv 50625).fmod 4 = 2) : gi 4 none (rowS n) = [szv n 0, szv n 0, szv n 0, szv n 0] := by
  rw [rowS2 h, gi_step (szv_b n 0), gi_zero]; rfl
theorem gi_row3 {n : Int} (h : (n.fdiv 50625).fmod 4 = 3) : gi 4 none (rowS n) = [szv n 0, szv n 1, szv n 2] := by
  rw [rowS3 h, gi_step (szv_b n 0), gi_step (szv_b n 1), gi_step (szv_b n 2), gi_end]
theorem gi_kinds (n : Int) : (∃ a b c d, gi 4 none (rowS n) = [a, b, c, d]) ∨ (∃ a b c, gi 4 none (rowS n) = [a, b, c]) := by
  rcases kind4 n with h | h | h | h
  · exact .inl ⟨_, _, _, _, gi_row0 h⟩
  · exact .inl ⟨_, _, _, _, gi_row1 h⟩
  · exact .inl ⟨_, _, _, _, gi_row2 h⟩
  · exact .inr ⟨_, _, _, gi_row3 h⟩
theorem row_noErr (n : Int) : noErr none (rowS n) := by
  have z := szv_b n 0
  rcases kind4 n with h | h | h | h
  · rw [rowS0 h]; exact Int.ne_of_gt z.1
  · rw [rowS1 h]; exact Int.ne_of_gt z.1
  · rw [rowS2 h]; exact Int.ne_of_gt z.1
  · rw [rowS3 h]; exact Int.ne_of_gt z.1
theorem mkS4 {n a b c d : Int} (h : gi 4 none (rowS n) = [a, b, c, d]) : mkS n = run 0 [a, b, c, d] := by unfold mkS; rw [h]; rfl
theorem mkS3 {n a b c : Int} (h : gi 4 none (rowS n) = [a, b, c]) : mkS n = 0 :: run 0 [a, b, c] := by unfold mkS; rw [h]; rfl
section
variable {prog : Program} {w : World} {A : Around} {E : Value → Shared → Prop} {s : Shared} {h₀ : Heap} {L t : Addr} {m : Str → Option Value} {news : List (Addr × Obj)}
/-- one of the four rows, by the kind -/
theorem pickRow {value slice : PySem.Expr} {n : Int} {X T0 T1 T2 T3 : Addr} {a0 a1 a2 a3 b0 b1 b2 b3 c0 c1 c2 d0 d1 d2 d3 d4 u : Tok} {z0 z1 z2 z3 : Nat} {Q : Value → Shared → Prop} (N : News h₀ L s.heap news) (hX : (X, tupOb #[.ref T0, .ref T1, .ref T2, .ref T3]) ∈ news)
    (h0 : (T0, W.listOf [Value.int (szv n 0) a0, .int (szv n 1) a1, .int (szv n 2) a2, .int (szv n 3) a3].toArray z0) ∈ news) (h1 : (T1, W.listOf [Value.int (szv n 0) b0, .int (szv n 1) b1, .int 0 b2, .int (szv n 2) b3].toArray z1) ∈ news)
    (h2 : (T2, W.listOf [Value.int (szv n 0) c0, .int 0 c1, .int (szv n 1) c2].toArray z2) ∈ news) (h3 : (T3, W.listOf [Value.int (szv n 0) d0, .int (szv n 1) d1, .int (szv n 2) d2, .int 127 d3, .int (szv n 3) d4].toArray z3) ∈ news)
    {P : Addr → Prop} (p0 : P T0) (p1 : P T1) (p2 : P T2) (p3 : P T3)
    (k : ∀ T vs z, P T → (T, W.listOf vs.toArray z) ∈ news → IntsAre vs (rowS n) → Q (.ref T) s)
    (hs : subscripted slice false (.ref X) (.int ((n.fdiv 50625).fmod 4) u) = operate [.ref X, .int ((n.fdiv 50625).fmod 4) u] (getItem (.ref X) (.int ((n.fdiv 50625).fmod 4) u))) :
    wpAny (model prog w) A (subscriptTail value slice (.ref X) (.int ((n.fdiv 50625).fmod 4) u)) Q E s := by
  have ht : IsTup s.heap X [Value.ref T0, .ref T1, .ref T2, .ref T3].toArray := News.isTup N hX
  have key : ∀ j x, (n.fdiv 50625).fmod 4 = ((j : Nat) : Int) → j < 4 → [Value.ref T0, .ref T1, .ref T2, .ref T3][j]? = some x → Q x s → wpAny (model prog w) A (subscriptTail value slice (.ref X) (.int ((n.fdiv 50625).fmod 4) u)) Q E s := by
    intro j x e hj hx q
    refine item_tupleT ht ?_ ?_ (j := j) ?_ hx q hs
    · rw [e]; exact (nat4 hj).1
    · rw [e]; exact (nat4 hj).2.1
    · rw [e]; exact StrLaws.seqIndex_nonneg (Int.natCast_nonneg j) (nat4 hj).2.2
  rcases kind4 n with h | h | h | h
  · exact key 0 _ h (by decide) rfl (k T0 _ _ p0 h0 (by rw [rowS0 h]; exact .cons _ _ (.cons _ _ (.cons _ _ (.cons _ _ .nil)))))
  · exact key 1 _ h (by decide) rfl (k T1 _ _ p1 h1 (by rw [rowS1 h]; exact .cons _ _ (.cons _ _ (.cons _ _ (.cons _ _ .nil)))))
  · exact key 2 _ h (by decide) rfl (k T2 _ _ p2 h2 (by rw [rowS2 h]; exact .cons _ _ (.cons _ _ (.cons _ _ .nil))))
  · exact key 3 _ h (by decide) rfl (k T3 _ _ p3 h3 (by rw [rowS3 h]; exact .cons _ _ (.cons _ _ (.cons _ _ (.cons _ _ (.cons _ _ .nil))))))
end
theorem swap3 {α : Type} {a b c : α} {K : List α} (q : α) (h : q ∈ b :: c :: a :: K) : q ∈ a :: b :: c :: K := by
  simp only [List.mem_cons] at h ⊢
  exact h.elim (fun h => .inr (.inl h)) fun h => h.elim (fun h => .inr (.inr (.inl h))) fun h => h.elim .inl fun h => .inr (.inr (.inr h))
end Mine
end
section
open PySem PySem.W PyProof.Rows PySem.Calls
set_option maxRecDepth 100000
set_option maxHeartbeats 0
set_option linter.unusedVariables false
namespace Mine
theorem f_marks (w : World) (n : Int) (t1 : Tok) (hn : 0 ≤ n) (hn2 : n < 1000000) : ClaimG w 60 240 123 [] [.int n t1] (fun v new => ∃ D ys c, v = .ref D ∧ new = [(D, W.listOf ys.toArray c)] ∧ IntsAre ys (mkS n)) := by
  unfold ClaimG
  k_fill
  intro mean mg mb dp un gd cn cs a ccd cl outer A₀ base h₀ L m s Q E Bz Fz Xz Nz Tz hk hd hu hr
  refine wpAny_call ?_
  k_dflt (refine' enterP ?k1 ?k2 ?k3 ?k4 ?k5 ?kA ?kF ?kK ?k6 ?k7 ?k8 ?k9 ?kB ?_ ?c2 ?c3 ?c4 ?c5; (case kA => exact rfl); (case kF => exact rfl); (case kK => assumption); (case k1 => k_asm); (case k2 => k_asm); (case k3 => k_asm); (case k4 => k_asm); (case k5 => k_asm); (case k6 => k_is); (case k7 => k_is); (case k8 => ktr_room); (case k9 => exact BindsTo.of_eq rfl); (case c5 => decide); (case kB => exact locs rfl); (case c2 => exact rfl); (case c3 => exact rfl); (case c4 => exact rfl); k_whole; intro gH L' h' tk' hg FG' F' N' B' X' T'; (try dsimp only); (try k_fold))
  refine opaqH (fun Q' hQ' => ?_)
  refine fr1 (x1 := Str.ofString "number") (v1 := .int n t1) F' (by with_unfolding_all rfl) (fun m0 F0 => ?_)
  clear F'
  (repeat' (first | (k_unfold; (try dsimp only)) | ((with_reducible show wpAny _ _ (execs (_ :: _) _) _ _ _); (try k_gentoks); refine execsO ?_; intro _ _) | ((with_reducible show wpAny _ _ (call (Value.ref _) _ _) _ _ _); refine Stop.mk ?_) | walk1 | (dsimp only; walk1) | (leave1; walk_say "STEP leave1"; (try dsimp only)) | (refine Nx.nx (by with_reducible assumption) ?_) | (refine Nx.rt (by with_reducible assumption) ?_) | fail "no step"))
  unfold Stop
  rename News _ _ _ _ => N99
  rename Fr _ _ _ _ => F99
  k_dflt (refine' f_sizes _ _ _ hn hn2 _ _ _ _ _ _ _ _ _ _ _ _ _ _ _ _ _ ?qB ?qF ?qX ?qN ?qT ?qK ?qD ?qU ?_)
  case qB => first | assumption | k_asm
  case qF => exact F99
  case qX => assumption
  case qN => exact News.nil
  case qT => assumption
  case qK => first | (k_dflt (exact rfl)) | assumption
  case qD => first | decide | ktr_room
  case qU => first | decide | ktr_units
  refine sizesBack N99 (List.forall_mem_nil _) (fun D u0 u1 u2 u3 h' tk' an F' N' => ?_)
  clear F99 N99
  (try dsimp only)
  (repeat' (first | (k_unfold; (try dsimp only)) | ((with_reducible show wpAny _ _ (execs (_ :: _) _) _ _ _); (try k_gentoks); refine execsO ?_; intro _ _) | ((with_reducible show wpAny _ _ (exec (.For (.Name _ _) (.Call _ _ _ _) _ _ _) _) _ _ _); refine Stop.mk ?_) | walk1 | (dsimp only; walk1) | (leave1; walk_say "STEP leave1"; (try dsimp only)) | (refine Nx.nx (by with_reducible assumption) ?_) | (refine Nx.rt (by with_reducible assumption) ?_) | fail "no step"))
  unfold Stop
  refine wpAny_For ?_ (by intro _; rfl)
  (repeat' (first | (k_unfold; (try dsimp only)) | ((with_reducible show wpAny _ _ (execs (_ :: _) _) _ _ _); (try k_gentoks); refine execsO ?_; intro _ _) | ((with_reducible show wpAny _ _ (subscriptTail _ _ (Value.ref _) (Value.int (Int.fmod _ _) _)) _ _ _); refine Stop.mk ?_) | ((with_reducible show wpAny _ _ (call (Value.ref 42) _) _ _ _); refine Stop.mk ?_) | walk1 | (dsimp only; walk1) | (leave1; walk_say "STEP leave1"; (try dsimp only)) | (refine Nx.nx (by with_reducible assumption) ?_) | (refine Nx.rt (by with_reducible assumption) ?_) | fail "no step"))
  unfold Stop
  rename_i T0 h0 l0 T1 h1 l1 T2 h2 l2 T3 h3 l3 X h4 l4 h5 tkA Q1 H1 M h6 l6 h7 tkB Q2 H2 h8 F8 N8 Q3 H3
  refine pickRow N8 (.tail _ (.head _)) (.tail _ (.tail _ (.tail _ (.tail _ (.tail _ (.head _)))))) (.tail _ (.tail _ (.tail _ (.tail _ (.head _))))) (.tail _ (.tail _ (.tail _ (.head _)))) (.tail _ (.tail _ (.head _))) (P := fun T => @LT.lt Nat _ T M) l6.2.2.2.2.1 l6.2.2.2.1 l6.2.2.1 l6.2.1 (fun T vs z aT mT hI => ?_) (by with_unfolding_all rfl)
  have N9 : News gH L' _ [(M, LCg.lst []), (T, W.listOf vs.toArray z)] := News.less N8 (List.forall_mem_cons.mpr ⟨.head _, List.forall_mem_singleton.mpr mT⟩)
  clear l0 l1 l2 l3 l4 l6 N8 mT
  (repeat' (first | (k_unfold; (try dsimp only)) | ((with_reducible show wpAny _ _ (execs (_ :: _) _) _ _ _); (try k_gentoks); refine execsO ?_; intro _ _) | ((with_reducible show wpAny _ _ (call (Value.ref 42) _) _ _ _); refine Stop.mk ?_) | walk1 | (dsimp only; walk1) | (leave1; walk_say "STEP leave1"; (try dsimp only)) | (refine Nx.nx (by with_reducible assumption) ?_) | (refine Nx.rt (by with_reducible assumption) ?_) | fail "no step"))
  unfold Stop
  refine call_gen (by assumption) N9 X' T' (by k_room) ?_
  intro Lg oL h9 tk9 G g t u F1 N1 ns1 hG hlt hLL bG1
  refine wpAny_pyIter_gen (g := g) ⟨_, _, _, (N1 _ (.head _)).1, rfl, rfl, rfl⟩ ?_
  have hML : @LT.lt Nat _ M Lg := hlt _ (.head _)
  obtain ⟨row, hrow⟩ := rowOf ns1
  rw [← hrow] at ns1
  refine marks_loop w dp un gd cn cs L a ccd cl outer gH L' _ _ _ _ [(Lg + 1, genOb g t u), (T, W.listOf vs.toArray z)] M Lg row g z t u _ oL vs (rowS n) _ (by passes_own) F1 (News.less N1 swap3) X' T' (by lia) (by lia) (by with_unfolding_all rfl) (by with_unfolding_all rfl) hG (List.forall_mem_cons.mpr ⟨Nat.succ_ne_self _, List.forall_mem_singleton.mpr (Nat.ne_of_lt (hlt _ (.tail _ (.head _))))⟩) (Nat.ne_of_lt hML) (List.forall_mem_cons.mpr ⟨Nat.ne_of_gt (Nat.lt_succ_of_lt hML), List.forall_mem_singleton.mpr (Nat.ne_of_lt aT)⟩) (.head _) (hrow ▸ .tail _ (.head _)) hI ns1 (by rfl) (row_noErr n) ?_
  intro h2 tk2 G2 m2 ys F2 hm2 N3 hys bG2
  refine fr1 F2 hm2 (fun m9 F9 => ?_)
  have N4 : News gH L' h2 [(M, LCg.lst ys)] := News.less N3 (List.forall_mem_singleton.mpr (.head _))
  clear N1 N3 F1 F2 hm2 N9 hI hlt hG ns1
  rcases gi_kinds n with ⟨x0, x1, x2, x3, e⟩ | ⟨x0, x1, x2, e⟩
  · rw [e] at hys
    obtain ⟨ta, tb, tc, td, ey⟩ := ints4 hys
    rw [ey] at N4
    (repeat' (first | (k_unfold; (try dsimp only)) | ((with_reducible show wpAny _ _ (execs (_ :: _) _) _ _ _); (try k_gentoks); refine execsO ?_; intro _ _) | walk1 | (dsimp only; walk1) | (leave1; walk_say "STEP leave1"; (try dsimp only)) | (refine Nx.nx (by with_reducible assumption) ?_) | (refine Nx.rt (by with_reducible assumption) ?_) | fail "no step"))
    refine hQ' _ _ ?_
    (try dsimp only)
    (repeat' (first | (k_unfold; (try dsimp only)) | ((with_reducible show wpAny _ _ (execs (_ :: _) _) _ _ _); (try k_gentoks); refine execsO ?_; intro _ _) | walk1 | (dsimp only; walk1) | (leave1; walk_say "STEP leave1"; (try dsimp only)) | (refine Nx.nx (by with_reducible assumption) ?_) | (refine Nx.rt (by with_reducible assumption) ?_) | fail "no step"))
    rename News _ _ _ _ => NF
    refine hr _ [(_, W.listOf (List.toArray [.int (0 + x0) ta, .int (0 + x0 + x1) tb, .int (0 + x0 + x1 + x2) tc, .int (0 + x0 + x1 + x2 + x3) td]) 0)] _ _ _ ⟨_, [.int (0 + x0) ta, .int (0 + x0 + x1) tb, .int (0 + x0 + x1 + x2) tc, .int (0 + x0 + x1 + x2 + x3) td], 0, rfl, rfl, by rw [mkS4 e]; exact .cons _ _ (.cons _ _ (.cons _ _ (.cons _ _ .nil)))⟩ (fun q => bG2 (bG1 q)) (BackK.of hg (by assumption) (by assumption) (by assumption) NF ?_ (fun p _ q hq => nomatch hq))
    intro p hp
    exact (List.mem_append.mp hp).elim (fun hp => List.mem_singleton.mp hp ▸ List.mem_cons_self ..) fun hp => nomatch hp
  · rw [e] at hys
    obtain ⟨ta, tb, tc, ey⟩ := ints3 hys
    rw [ey] at N4
    (repeat' (first | (k_unfold; (try dsimp only)) | ((with_reducible show wpAny _ _ (execs (_ :: _) _) _ _ _); (try k_gentoks); refine execsO ?_; intro _ _) | walk1 | (dsimp only; walk1) | (leave1; walk_say "STEP leave1"; (try dsimp only)) | (refine Nx.nx (by with_reducible assumption) ?_) | (refine Nx.rt (by with_reducible assumption) ?_) | fail "no step"))
    refine hQ' _ _ ?_
    (try dsimp only)
    (repeat' (first | (k_unfold; (try dsimp only)) | ((with_reducible show wpAny _ _ (execs (_ :: _) _) _ _ _); (try k_gentoks); refine execsO ?_; intro _ _) | walk1 | (dsimp only; walk1) | (leave1; walk_say "STEP leave1"; (try dsimp only)) | (refine Nx.nx (by with_reducible assumption) ?_) | (refine Nx.rt (by with_reducible assumption) ?_) | fail "no step"))
    rename News _ _ _ _ => NF
    refine hr _ [(_, W.listOf (List.toArray [.int 0 tk2, .int (0 + x0) ta, .int (0 + x0 + x1) tb, .int (0 + x0 + x1 + x2) tc]) 0)] _ _ _ ⟨_, [.int 0 tk2, .int (0 + x0) ta, .int (0 + x0 + x1) tb, .int (0 + x0 + x1 + x2) tc], 0, rfl, rfl, by rw [mkS3 e]; exact .cons _ _ (.cons _ _ (.cons _ _ (.cons _ _ .nil)))⟩ (fun q => bG2 (bG1 q)) (BackK.of hg (by assumption) (by assumption) (by assumption) NF ?_ (fun p _ q hq => nomatch hq))
    intro p hp
    exact (List.mem_append.mp hp).elim (fun hp => List.mem_singleton.mp hp ▸ List.mem_cons_self ..) fun hp => nomatch hp
end Mine
end
section
open PySem PySem.W PyProof.Rows
namespace Mine
theorem le1_mm (t a b : Int) : le1 t (min a b) + le1 t (max a b) = le1 t a + le1 t b := by
  rcases Int.le_total a b with h | h
  · rw [Int.min_eq_left h, Int.max_eq_right h]
  · rw [Int.min_eq_right h, Int.max_eq_left h]; lia
/-- the net of five meetings puts four numbers in order -/
theorem net_col {x0 x1 x2 x3 a b c d u0 u1 u2 u3 v0 v1 v2 v3 w1 w2 : Int} (hp : [x0, x1, x2, x3].Perm [a, b, c, d]) (ho : a ≤ b ∧ b ≤ c ∧ c ≤ d)
    (e1 : u0 = min x0 x1) (e2 : u1 = max x0 x1) (e3 : u2 = min x2 x3) (e4 : u3 = max x2 x3) (e5 : v0 = min u0 u2) (e6 : v2 = max u0 u2) (e7 : v1 = min u1 u3) (e8 : v3 = max u1 u3) (e9 : w1 = min v1 v2) (e10 : w2 = max v1 v2) :
    v0 = a ∧ w1 = b ∧ w2 = c ∧ v3 = d := by
  have asc : v0 ≤ w1 ∧ w1 ≤ w2 ∧ w2 ≤ v3 := by
    clear hp ho
    have h1 : u0 ≤ u1 := by rw [e1, e2]; exact Int.le_trans (Int.min_le_left ..) (Int.le_max_left ..)
    have h2 : u2 ≤ u3 := by rw [e3, e4]; exact Int.le_trans (Int.min_le_left ..) (Int.le_max_left ..)
    have h3 : v0 ≤ u0 ∧ v0 ≤ u2 := by rw [e5]; exact ⟨Int.min_le_left .., Int.min_le_right ..⟩
    have h4 : u1 ≤ v3 ∧ u3 ≤ v3 := by rw [e8]; exact ⟨Int.le_max_left .., Int.le_max_right ..⟩
    have h5 : v0 ≤ v1 := by rw [e7]; exact Int.le_min.mpr ⟨Int.le_trans h3.1 h1, Int.le_trans h3.2 h2⟩
    have h6 : v0 ≤ v2 := by rw [e6]; exact Int.le_trans h3.1 (Int.le_max_left ..)
    have h7 : v1 ≤ v3 := by rw [e7]; exact Int.le_trans (Int.min_le_left ..) h4.1
    have h8 : v2 ≤ v3 := by rw [e6]; exact Int.max_le.mpr ⟨Int.le_trans h1 h4.1, Int.le_trans h2 h4.2⟩
    rw [e9, e10]
    exact ⟨Int.le_min.mpr ⟨h5, h6⟩, Int.le_trans (Int.min_le_left ..) (Int.le_max_left ..), Int.max_le.mpr ⟨h7, h8⟩⟩
  have sums : ∀ t, ([v0, w1, w2, v3].map (le1 t)).sum = ([a, b, c, d].map (le1 t)).sum := by
    intro t
    rw [← perm_sum hp]
    have k1 := le1_mm t x0 x1
    have k2 := le1_mm t x2 x3
    have k3 := le1_mm t u0 u2
    have k4 := le1_mm t u1 u3
    have k5 := le1_mm t v1 v2
    rw [← e1, ← e2] at k1
    rw [← e3, ← e4] at k2
    rw [← e5, ← e6] at k3
    rw [← e7, ← e8] at k4
    rw [← e9, ← e10] at k5
    simp only [List.map_cons, List.map_nil, List.sum_cons, List.sum_nil]
    clear asc hp ho e1 e2 e3 e4 e5 e6 e7 e8 e9 e10
    lia
  have D1 : Dom [v0, w1, w2, v3] [a, b, c, d] := Dom_of fun t => Int.le_of_eq (sums t)
  have D2 : Dom [a, b, c, d] [v0, w1, w2, v3] := Dom_of fun t => Int.le_of_eq (sums t).symm
  have d1 := D1 _ _ _ _ _ _ _ _ (List.Perm.refl _) asc (List.Perm.refl _) ho
  have d2 := D2 _ _ _ _ _ _ _ _ (List.Perm.refl _) ho (List.Perm.refl _) asc
  exact ⟨Int.le_antisymm d2.1 d1.1, Int.le_antisymm d2.2.1 d1.2.1, Int.le_antisymm d2.2.2.1 d1.2.2.1, Int.le_antisymm d2.2.2.2 d1.2.2.2⟩
theorem net_all {r0 r1 r2 r3 g0 g1 g2 g3 b0 b1 b2 b3 R0 R1 R2 R3 G0 G1 G2 G3 B0 B1 B2 B3 : Int} (hr : [r0, r1, r2, r3].Perm [R0, R1, R2, R3]) (hg : [g0, g1, g2, g3].Perm [G0, G1, G2, G3]) (hb : [b0, b1, b2, b3].Perm [B0, B1, B2, B3])
    (oR : R0 ≤ R1 ∧ R1 ≤ R2 ∧ R2 ≤ R3) (oG : G0 ≤ G1 ∧ G1 ≤ G2 ∧ G2 ≤ G3) (oB : B0 ≤ B1 ∧ B1 ≤ B2 ∧ B2 ≤ B3) :
    net5.foldl stepN [(r0, g0, b0), (r1, g1, b1), (r2, g2, b2), (r3, g3, b3)] = [(R0, G0, B0), (R1, G1, B1), (R2, G2, B2), (R3, G3, B3)] := by
  obtain ⟨a1, a2, a3, a4⟩ := net_col hr oR rfl rfl rfl rfl rfl rfl rfl rfl rfl rfl
  obtain ⟨c1, c2, c3, c4⟩ := net_col hg oG rfl rfl rfl rfl rfl rfl rfl rfl rfl rfl
  obtain ⟨d1, d2, d3, d4⟩ := net_col hb oB rfl rfl rfl rfl rfl rfl rfl rfl rfl rfl
  have : net5.foldl stepN [(r0, g0, b0), (r1, g1, b1), (r2, g2, b2), (r3, g3, b3)] =
    [(min (min r0 r1) (min r2 r3), min (min g0 g1) (min g2 g3), min (min b0 b1) (min b2 b3)),
     (min (min (max r0 r1) (max r2 r3)) (max (min r0 r1) (min r2 r3)), min (min (max g0 g1) (max g2 g3)) (max (min g0 g1) (min g2 g3)), min (min (max b0 b1) (max b2 b3)) (max (min b0 b1) (min b2 b3))),
     (max (min (max r0 r1) (max r2 r3)) (max (min r0 r1) (min r2 r3)), max (min (max g0 g1) (max g2 g3)) (max (min g0 g1) (min g2 g3)), max (min (max b0 b1) (max b2 b3)) (max (min b0 b1) (min b2 b3))),
     (max (max r0 r1) (max r2 r3), max (max g0 g1) (max g2 g3), max (max b0 b1) (max b2 b3))] := rfl
  rw [this, a1, a2, a3, a4, c1, c2, c3, c4, d1, d2, d3, d4]
/-- marks and levels are the same four, in order, from 0 to 60 -/
theorem lev4 (n : Int) : ∃ a b c d, cums (lvS n) = [a, b, c, d] ∧ mkS n = [a, b, c, d] ∧ (a ≤ b ∧ b ≤ c ∧ c ≤ d) ∧ 0 ≤ a ∧ d ≤ 60 := by
  have z0 := szv_b n 0
  have z1 := szv_b n 1
  have z2 := szv_b n 2
  have z3 := szv_b n 3
  rcases kind4 n with h | h | h | h
  · refine ⟨szv n 0, szv n 0 + szv n 1, szv n 0 + szv n 1 + szv n 2, szv n 0 + szv n 1 + szv n 2 + szv n 3, by rw [lvS0 h]; rfl, ?_, by lia, by lia, by lia⟩
    unfold mkS
    rw [gi_row0 h]
    simp [run]
  · refine ⟨szv n 0, szv n 0 + szv n 1, szv n 0 + szv n 1 + szv n 1, szv n 0 + szv n 1 + szv n 1 + szv n 1, by rw [lvS1 h]; rfl, ?_, by lia, by lia, by lia⟩
    unfold mkS
    rw [gi_row1 h]
    simp [run]
  · refine ⟨szv n 0, szv n 0 + szv n 0, szv n 0 + szv n 0 + szv n 0, szv n 0 + szv n 0 + szv n 0 + szv n 0, by rw [lvS2 h]; rfl, ?_, by lia, by lia, by lia⟩
    unfold mkS
    rw [gi_row2 h]
    simp [run]
  · refine ⟨0, 0 + szv n 0, 0 + szv n 0 + szv n 1, 0 + szv n 0 + szv n 1 + szv n 2, by rw [lvS3 h]; rfl, ?_, by lia, by lia, by lia⟩
    unfold mkS
    rw [gi_row3 h]
    simp [run]
theorem len4N {xs : List Nat} (h : xs.length = 4) : ∃ a b c d, xs = [a, b, c, d] := by
  match xs, h with
  | [a, b, c, d], _ => exact ⟨a, b, c, d, rfl⟩
theorem dealt4 {ix : List Nat} {a b c d : Int} (h : ix.Perm [0, 1, 2, 3]) : ∃ x y z u, (ix.map fun i => [a, b, c, d].getD i 0) = [x, y, z, u] ∧ [x, y, z, u].Perm [a, b, c, d] := by
  obtain ⟨i, j, k, l, rfl⟩ := len4N h.length_eq
  exact ⟨_, _, _, _, rfl, h.map (fun i => [a, b, c, d].getD i 0)⟩
theorem draw_b (ns : List Int) (i : Nat) (h : 0 ≤ dues.getD i 0 ∧ dues.getD i 0 < 1000000) : 0 ≤ (if i < ns.length then (ns.getD i 0).fmod 1000000 else dues.getD i 0) ∧ (if i < ns.length then (ns.getD i 0).fmod 1000000 else dues.getD i 0) < 1000000 := by
  have h1 := Int.fmod_nonneg_of_pos (ns.getD i 0) (b := 1000000) (by lia)
  have h2 := Int.fmod_lt_of_pos (ns.getD i 0) (b := 1000000) (by lia)
  split
  · exact ⟨h1, h2⟩
  · exact h
theorem draws5 (ns : List Int) : ∃ a b c d e, drawsF ns = [a, b, c, d, e] ∧ (0 ≤ a ∧ a < 1000000) ∧ (0 ≤ b ∧ b < 1000000) ∧ (0 ≤ c ∧ c < 1000000) ∧ (0 ≤ d ∧ d < 1000000) ∧ (0 ≤ e ∧ e < 1000000) :=
  ⟨_, _, _, _, _, rfl, draw_b ns 0 (by decide), draw_b ns 1 (by decide), draw_b ns 2 (by decide), draw_b ns 3 (by decide), draw_b ns 4 (by decide)⟩
theorem ints5 {ys : List Value} {a b c d e : Int} (h : IntsAre ys [a, b, c, d, e]) : ∃ t0 t1 t2 t3 t4, ys = [.int a t0, .int b t1, .int c t2, .int d t3, .int e t4] := by
  cases h with | cons _ t0 h => cases h with | cons _ t1 h => cases h with | cons _ t2 h => cases h with | cons _ t3 h => cases h with | cons _ t4 h => cases h; exact ⟨t0, t1, t2, t3, t4, rfl⟩
/-- what the walk wants of a word -/
noncomputable def DealOk (P : Params) (n : Int) : Prop := ∃ (fin : Str) (g : Nat → Str) (ix : List Nat), tyF [4, 3, 2, 1] (Str.ofString "abcd") n (Str.ofString "") fin ∧ (∀ k ∈ fin.cps.toList, b1S P k = false → B3 k (g k)) ∧ fin.cps.size ≤ 8 ∧
  (((fin.cps.toList.filter fun k : Nat => !b1S P (k : Int)).map g).map fun x => Txt.find (Str.ofString "abcd") x) = (ix.map fun i : Nat => (i : Int)) ∧ ix.Perm [0, 1, 2, 3]
theorem perm_lt {ix : List Nat} (h : ix.Perm [0, 1, 2, 3]) {i : Nat} (hi : i ∈ ix) : i < 4 := by
  have := h.mem_iff.mp hi
  simp at this
  lia
theorem deal_find {xs : List Str} {ix : List Nat} (e : (xs.map fun x => Txt.find (Str.ofString "abcd") x) = (ix.map fun i : Nat => (i : Int))) (h : ix.Perm [0, 1, 2, 3]) : ∀ x ∈ xs, 0 ≤ Txt.find (Str.ofString "abcd") x ∧ Txt.find (Str.ofString "abcd") x < 4 := by
  intro x hx
  have : Txt.find (Str.ofString "abcd") x ∈ (ix.map fun i : Nat => (i : Int)) := e ▸ List.mem_map_of_mem hx
  obtain ⟨i, hi, e2⟩ := List.mem_map.mp this
  have := perm_lt h hi
  lia
theorem deal_get {xs : List Str} {ix : List Nat} (ls : List Int) (e : (xs.map fun x => Txt.find (Str.ofString "abcd") x) = (ix.map fun i : Nat => (i : Int))) : (xs.map fun x => ls.getD (Txt.find (Str.ofString "abcd") x).toNat 0) = ix.map fun i => ls.getD i 0 := by
  have h1 : (xs.map fun x => ls.getD (Txt.find (Str.ofString "abcd") x).toNat 0) = (xs.map fun x => Txt.find (Str.ofString "abcd") x).map fun z => ls.getD z.toNat 0 := by rw [List.map_map]; rfl
  rw [h1, e, List.map_map]
  rfl
end Mine
namespace Mine
theorem perm_bd {x y z u a b c d : Int} (h : [x, y, z, u].Perm [a, b, c, d]) (ho : a ≤ b ∧ b ≤ c ∧ c ≤ d) (h0 : 0 ≤ a) (h6 : d ≤ 60) : (0 ≤ x ∧ x ≤ 60) ∧ (0 ≤ y ∧ y ≤ 60) ∧ (0 ≤ z ∧ z ≤ 60) ∧ (0 ≤ u ∧ u ≤ 60) := by
  have hb : 0 ≤ b := Int.le_trans h0 ho.1
  have hc : 0 ≤ c := Int.le_trans hb ho.2.1
  have hd : 0 ≤ d := Int.le_trans hc ho.2.2
  have kc : c ≤ 60 := Int.le_trans ho.2.2 h6
  have kb : b ≤ 60 := Int.le_trans ho.2.1 kc
  have ka : a ≤ 60 := Int.le_trans ho.1 kb
  have all : ∀ q ∈ [a, b, c, d], 0 ≤ q ∧ q ≤ 60 := by
    intro q hq
    simp only [List.mem_cons, List.not_mem_nil, or_false] at hq
    rcases hq with rfl | rfl | rfl | rfl
    · exact ⟨h0, ka⟩
    · exact ⟨hb, kb⟩
    · exact ⟨hc, kc⟩
    · exact ⟨hd, h6⟩
  have al : ∀ q ∈ [x, y, z, u], 0 ≤ q ∧ q ≤ 60 := fun q hq => all q (h.mem_iff.mp hq)
  exact ⟨al x (.head _), al y (.tail _ (.head _)), al z (.tail _ (.tail _ (.head _))), al u (.tail _ (.tail _ (.tail _ (.head _))))⟩
end Mine
end
section
open PySem PySem.W PyProof.Rows PySem.Calls
set_option maxRecDepth 100000
namespace Mine
/-- a call that answers a list of four ints -/
theorem fourBack {g h : Heap} {L : Addr} {m : Str → Option Value} {Lg need : List (Addr × Obj)} {xs : List Int} {a b c d : Int} {C : Value → Heap → Nat → Prop} (e : xs = [a, b, c, d]) (N : News g L h Lg) (hs : ∀ p ∈ need, p ∈ Lg)
    (k : ∀ (D : Addr) (t0 t1 t2 t3 : Tok) (h' : Heap) (tk' : Nat), Fr g L h' m → News g L h' ((D, LCg.lst [.int a t0, .int b t1, .int c t2, .int d t3]) :: Lg) → C (.ref D) h' tk')
    (v : Value) (new : List (Addr × Obj)) (h' : Heap) (tk' : Nat) (hP : ∃ D ys, v = .ref D ∧ new = [(D, LCg.lst ys)] ∧ IntsAre ys xs) (b : BackK g L m h need new h') : C v h' tk' := by
  obtain ⟨D, ys, rfl, rfl, hi⟩ := hP
  rw [e] at hi
  obtain ⟨t0, t1, t2, t3, rfl⟩ := ints4 hi
  exact k D t0 t1 t2 t3 h' tk' (BackK.fr b) (BackK.use b N hs).1
/-- the same for a call that runs a generator -/
theorem fourBackG {g h : Heap} {L : Addr} {m : Str → Option Value} {Lg need : List (Addr × Obj)} {xs : List Int} {a b c d : Int} {γ : Type} {B : γ → Prop} {C : Value → Heap → Nat → γ → Prop} (e : xs = [a, b, c, d]) (N : News g L h Lg) (hs : ∀ p ∈ need, p ∈ Lg)
    (k : ∀ (D : Addr) (t0 t1 t2 t3 : Tok) (z : Nat) (h' : Heap) (tk' : Nat) (G : γ), B G → Fr g L h' m → News g L h' ((D, W.listOf [.int a t0, .int b t1, .int c t2, .int d t3].toArray z) :: Lg) → C (.ref D) h' tk' G)
    (v : Value) (new : List (Addr × Obj)) (h' : Heap) (tk' : Nat) (G : γ) (hP : ∃ D ys c, v = .ref D ∧ new = [(D, W.listOf ys.toArray c)] ∧ IntsAre ys xs) (bG : B G) (b : BackK g L m h need new h') : C v h' tk' G := by
  obtain ⟨D, ys, z, rfl, rfl, hi⟩ := hP
  rw [e] at hi
  obtain ⟨t0, t1, t2, t3, rfl⟩ := ints4 hi
  exact k D t0 t1 t2 t3 z h' tk' G bG (BackK.fr b) (BackK.use b N hs).1
/-- the five draws -/
theorem drawsBack {g h : Heap} {L : Addr} {m : Str → Option Value} {Lg need : List (Addr × Obj)} {ns : List Int} {C : Value → Heap → Nat → Prop} (N : News g L h Lg) (hs : ∀ p ∈ need, p ∈ Lg)
    (k : ∀ (D : Addr) (d0 d1 d2 d3 d4 : Int) (t0 t1 t2 t3 t4 : Tok) (h' : Heap) (tk' : Nat), (0 ≤ d0 ∧ d0 < 1000000) → (0 ≤ d1 ∧ d1 < 1000000) → (0 ≤ d2 ∧ d2 < 1000000) → (0 ≤ d3 ∧ d3 < 1000000) → (0 ≤ d4 ∧ d4 < 1000000) →
      Fr g L h' m → News g L h' ((D, LCg.lst [.int d0 t0, .int d1 t1, .int d2 t2, .int d3 t3, .int d4 t4]) :: Lg) → C (.ref D) h' tk')
    (v : Value) (new : List (Addr × Obj)) (h' : Heap) (tk' : Nat) (hP : ∃ D ys, v = .ref D ∧ new = [(D, LCg.lst ys)] ∧ IntsAre ys (drawsF ns)) (b : BackK g L m h need new h') : C v h' tk' := by
  obtain ⟨D, ys, rfl, rfl, hi⟩ := hP
  obtain ⟨d0, d1, d2, d3, d4, hd, b0, b1, b2, b3, b4⟩ := draws5 ns
  rw [hd] at hi
  obtain ⟨t0, t1, t2, t3, t4, rfl⟩ := ints5 hi
  exact k D d0 d1 d2 d3 d4 t0 t1 t2 t3 t4 h' tk' b0 b1 b2 b3 b4 (BackK.fr b) (BackK.use b N hs).1
/-- a call that answers True, whatever it reads -/
theorem trueBack2 {g : Heap} {L : Addr} {m : Str → Option Value} {h : Heap} {need : List (Addr × Obj)} {C : Value → Heap → Nat → Prop}
    (k : ∀ (h' : Heap) (tk' : Nat), Fr g L h' m → C (.bool true) h' tk')
    (v : Value) (new : List (Addr × Obj)) (h' : Heap) (tk' : Nat) (hP : v = .bool true ∧ new = []) (b : BackK g L m h need new h') : C v h' tk' := by
  obtain ⟨rfl, rfl⟩ := hP
  exact k h' tk' (BackK.fr b)
theorem lamI {T : Addr} {r g b : Int} {a c d : Tok} {K : List (Addr × Obj)} (h : (T, tupOb #[.int r a, .int g c, .int b d]) ∈ K) : lamE ⟨T, r, g, b, a, c, d⟩ ∈ K := h
theorem lam4 {a b c d : Lamp} {K : List (Addr × Obj)} (h0 : lamE a ∈ K) (h1 : lamE b ∈ K) (h2 : lamE c ∈ K) (h3 : lamE d ∈ K) (l : Lamp) (h : l ∈ [a, b, c, d]) : lamE l ∈ K := by
  simp only [List.mem_cons, List.not_mem_nil, or_false] at h
  exact h.elim (fun e => e ▸ h0) fun h => h.elim (fun e => e ▸ h1) fun h => h.elim (fun e => e ▸ h2) fun e => e ▸ h3
theorem bd4 {T0 T1 T2 T3 : Addr} {a0 a1 a2 a3 b0 b1 b2 b3 c0 c1 c2 c3 : Int} {x0 x1 x2 x3 y0 y1 y2 y3 z0 z1 z2 z3 : Tok} (kr : (0 ≤ a0 ∧ a0 ≤ 60) ∧ (0 ≤ a1 ∧ a1 ≤ 60) ∧ (0 ≤ a2 ∧ a2 ≤ 60) ∧ (0 ≤ a3 ∧ a3 ≤ 60)) (kg : (0 ≤ b0 ∧ b0 ≤ 60) ∧ (0 ≤ b1 ∧ b1 ≤ 60) ∧ (0 ≤ b2 ∧ b2 ≤ 60) ∧ (0 ≤ b3 ∧ b3 ≤ 60)) (kb : (0 ≤ c0 ∧ c0 ≤ 60) ∧ (0 ≤ c1 ∧ c1 ≤ 60) ∧ (0 ≤ c2 ∧ c2 ≤ 60) ∧ (0 ≤ c3 ∧ c3 ≤ 60)) (l : Lamp)
    (h : l ∈ [⟨T0, a0, b0, c0, x0, y0, z0⟩, ⟨T1, a1, b1, c1, x1, y1, z1⟩, ⟨T2, a2, b2, c2, x2, y2, z2⟩, ⟨T3, a3, b3, c3, x3, y3, z3⟩]) : Bd l := by
  simp only [List.mem_cons, List.not_mem_nil, or_false] at h
  exact h.elim (fun e => e ▸ ⟨kr.1, kg.1, kb.1⟩) fun h => h.elim (fun e => e ▸ ⟨kr.2.1, kg.2.1, kb.2.1⟩) fun h => h.elim (fun e => e ▸ ⟨kr.2.2.1, kg.2.2.1, kb.2.2.1⟩) fun e => e ▸ ⟨kr.2.2.2, kg.2.2.2, kb.2.2.2⟩
theorem deal_lt {xs : List Str} {ix : List Nat} {a b c d : Int} (he : (xs.map fun x => Txt.find (Str.ofString "abcd") x) = (ix.map fun i : Nat => (i : Int))) (hp : ix.Perm [0, 1, 2, 3]) (x : Str) (hx : x ∈ xs) : 0 ≤ Txt.find (Str.ofString "abcd") x ∧ Txt.find (Str.ofString "abcd") x < [a, b, c, d].length := by
  have := deal_find he hp x hx
  exact ⟨this.1, this.2⟩
end Mine
end
section
open PySem PySem.W PyProof.Rows PySem.Calls
set_option maxRecDepth 100000
set_option maxHeartbeats 2000000
namespace Mine
theorem typeCall_zip3 (a b c : Value) : checkTypeCall "zip" ⟨[a, b, c], []⟩ = pure () := by kernel_rfl
theorem newCall_zip3 (a b c : Value) : checkBuiltinCall "zip.__new__" ⟨[.type "zip", a, b, c], []⟩ = pure () := by kernel_rfl
theorem args_object_init4 (a b c d : Value) : argsOk "object.__init__" ⟨[a, b, c, d], []⟩ := by
  unfold argsOk; rw [signature?_of (id := "object.__init__") (n := ['_', '_', 't', 'i', 'n', 'i', '_', '_']) (o := ['t', 'c', 'e', 'j', 'b', 'o']) (by kernel_rfl) F.owner_object]; kernel_rfl
abbrev liOb (l : Addr) (k : Int) : Obj := { cls := .type "list_iterator", data := .fields #[.ref l, .int k 0] }
abbrev tuOb (vs : Array Value) : Obj := { cls := .type "tuple", data := .seq vs }
abbrev zOb (f0 f1 : Value) (TI TO : Addr) : Obj := { cls := .type "zip", data := .fields #[f0, f1, .bool false, .ref TI, .ref TO] }
abbrev y1 (h : Heap) (l1 : Addr) : Heap := h.push (liOb l1 0)
abbrev y2 (h : Heap) (l1 l2 : Addr) : Heap := (y1 h l1).push (liOb l2 0)
abbrev y3 (h : Heap) (l1 l2 l3 : Addr) : Heap := (y2 h l1 l2).push (liOb l3 0)
abbrev y4 (h : Heap) (l1 l2 l3 : Addr) : Heap := (y3 h l1 l2 l3).push (tuOb #[.ref h.objs.size, .ref (y1 h l1).objs.size, .ref (y2 h l1 l2).objs.size])
abbrev y5 (h : Heap) (l1 l2 l3 : Addr) : Heap := (y4 h l1 l2 l3).push (tuOb #[.none, .none, .none])
abbrev y6 (h : Heap) (l1 l2 l3 : Addr) : Heap := (y5 h l1 l2 l3).push (zOb .none (.bool false) (y3 h l1 l2 l3).objs.size (y4 h l1 l2 l3).objs.size)
theorem meets_zip3 (l1 l2 l3 : Addr) (xs ys zs : Array Value) :
    Meets (Builtin.«zip.__new__» ⟨[.type "zip", .ref l1, .ref l2, .ref l3], []⟩) (fun _ R s => s.heap.IsList l1 xs ∧ s.heap.IsList l2 ys ∧ s.heap.IsList l3 zs ∧
      R (.ok (.ret (.ref (y5 s.heap l1 l2 l3).objs.size))) { s with heap := y6 s.heap l1 l2 l3 }) :=
  .of_wp fun prog w A R s h => by
    obtain ⟨hp, g, d, tk, os⟩ := s; obtain ⟨hl1, hl2, hl3, h⟩ := h
    have hsub := sub_zip
    have hL1 : Heap.IsList (Shared.heap ⟨hp, g, d, tk, os⟩) l1 xs := hl1
    have hL2 : Heap.IsList (Shared.heap ⟨hp.push { cls := .type "list_iterator", data := .fields #[.ref l1, .int 0 0] }, g, d, tk, os⟩) l2 ys := Heap.IsList.push hl2 _
    have hL3 : Heap.IsList (Shared.heap ⟨(hp.push { cls := .type "list_iterator", data := .fields #[.ref l1, .int 0 0] }).push { cls := .type "list_iterator", data := .fields #[.ref l2, .int 0 0] }, g, d, tk, os⟩) l3 zs := Heap.IsList.push (Heap.IsList.push hl3 _) _
    wp_walk using wpAny_pyIter_list hL1, wpAny_pyIter_list hL2, wpAny_pyIter_list hL3
    exact ⟨_, rfl, h⟩
section
variable {prog : Program} {w : World} {A : Around} {E : Value → Shared → Prop} {s : Shared}
theorem call_zip3 {l1 l2 l3 : Addr} {xs ys zs : Array Value} {Q : Value → Shared → Prop} (hl1 : s.heap.IsList l1 xs) (hl2 : s.heap.IsList l2 ys) (hl3 : s.heap.IsList l3 zs)
    (h : Q (.ref (s.heap.objs.size + 5)) { s with heap := y6 s.heap l1 l2 l3 }) :
    wpAny (model prog w) A (call (.type "zip") [.ref l1, .ref l2, .ref l3]) Q E s := by
  refine callType_new F.called_zip (by decide) (typeCall_zip3 _ _ _) (newCall_zip3 _ _ _) (fun obj => args_object_init4 obj _ _ _) F.entry_zip_new
    (meets_zip3 l1 l2 l3 xs ys zs) ⟨hl1, hl2, hl3, ?_⟩
  have e : (y5 s.heap l1 l2 l3).objs.size = s.heap.objs.size + 5 := by simp only [y5, y4, y3, y2, y1, Heap.size_push]
  have g6 : (y6 s.heap l1 l2 l3).get? (y5 s.heap l1 l2 l3).objs.size = some _ := Heap.get?_push_size _ rfl
  show _ ∧ _
  rw [e] at g6 ⊢
  exact ⟨⟨_, g6, rfl⟩, h⟩
end
end Mine
end
section
open PySem PySem.W PyProof.Rows PySem.Calls
set_option maxRecDepth 100000
set_option maxHeartbeats 2000000
namespace Mine
structure Zs (n : Nat) (l1 l2 l3 : Addr) (xs ys zs : Array Value) (k : Nat) (f0 f1 a b c : Value) (h : Heap) : Prop where
  z : h.get? (n + 5) = some (zOb f0 f1 (n + 3) (n + 4))
  ti : h.get? (n + 3) = some (tuOb #[.ref n, .ref (n + 1), .ref (n + 2)])
  to : h.get? (n + 4) = some (tuOb #[a, b, c])
  i1 : h.IsListIter n l1 k
  i2 : h.IsListIter (n + 1) l2 k
  i3 : h.IsListIter (n + 2) l3 k
  L1 : h.IsList l1 xs
  L2 : h.IsList l2 ys
  L3 : h.IsList l3 zs
  b1 : l1 < n
  b2 : l2 < n
  b3 : l3 < n
theorem Zs.keep {n : Nat} {l1 l2 l3 : Addr} {xs ys zs : Array Value} {k : Nat} {f0 f1 a b c : Value} {h h' : Heap} (x : Zs n l1 l2 l3 xs ys zs k f0 f1 a b c h) (hk : ∀ q o, @LT.lt Nat _ q (n + 6) → h.get? q = some o → h'.get? q = some o) : Zs n l1 l2 l3 xs ys zs k f0 f1 a b c h' :=
  ⟨hk _ _ (show (_ : Nat) < _ by lia) x.z, hk _ _ (show (_ : Nat) < _ by lia) x.ti, hk _ _ (show (_ : Nat) < _ by lia) x.to, x.i1.at fun o e => hk _ o (show (_ : Nat) < _ by lia) e, x.i2.at fun o e => hk _ o (show (_ : Nat) < _ by lia) e, x.i3.at fun o e => hk _ o (show (_ : Nat) < _ by lia) e,
    x.L1.at fun o e => hk _ o (Nat.lt_of_lt_of_le x.b1 (Nat.le_add_right _ _)) e, x.L2.at fun o e => hk _ o (Nat.lt_of_lt_of_le x.b2 (Nat.le_add_right _ _)) e, x.L3.at fun o e => hk _ o (Nat.lt_of_lt_of_le x.b3 (Nat.le_add_right _ _)) e, x.b1, x.b2, x.b3⟩
section
variable {prog : Program} {w : World} {A : Around} {E : Value → Shared → Prop} {s : Shared}
theorem w_alive {a : Addr} {Q : Option Obj → Shared → Prop} (h : Q (s.heap.get? a) s) : wpAny (model prog w) A (loadIfAlive a) Q E s := fun _ _ _ => h
theorem upd_tup {T : Addr} {vs : Array Value} {x : Value} {k : Nat} {Q : Unit → Shared → Prop} (hT : s.heap.get? T = some (tuOb vs)) (hz : vs.size ≤ 8)
    (h : ∀ h', h'.get? T = some (tuOb (vs.setIfInBounds k x)) → Heap.SameBut T s.heap h' → Q () { s with heap := h' }) :
    wpAny (model prog w) A (updateSeq T (·.setIfInBounds k x)) Q E s := by
  refine wpAny_updateSeq hT rfl (h _ ?_ (Heap.SameBut.update ..)) (by rw [sizeLine_eq]; lia) (by rw [Array.size_setIfInBounds, sizeLine_eq]; lia)
  rw [Heap.get?_update_self _ hT rfl]
  simp [Obj.mapSeq]
set_option maxHeartbeats 4000000 in
theorem next_first {n : Nat} {l1 l2 l3 : Addr} {xs ys zs : Array Value} {k : Nat} {a b c x y z : Value} {Q : Value → Shared → Prop} (S : Zs n l1 l2 l3 xs ys zs k .none (.bool false) a b c s.heap)
    (hx : xs[k]? = some x) (hy : ys[k]? = some y) (hz : zs[k]? = some z)
    (hQ : ∀ h', Zs n l1 l2 l3 xs ys zs (k + 1) (rawInt s.heap.objs.size) (.bool false) x y z h' → h'.get? s.heap.objs.size = some (tuOb #[x, y, z]) → h'.objs.size = s.heap.objs.size + 1 →
      (∀ q o, (@LT.lt Nat _ q n ∨ @LE.le Nat _ (n + 6) q) → s.heap.get? q = some o → h'.get? q = some o) → Q (.ref s.heap.objs.size) { s with heap := h' }) :
    wpAny (model prog w) A (Builtin.«zip.__next__» ⟨[.ref (n + 5)], []⟩) (fun fin s' => ∃ v, fin = .done (.ret v) ∧ Q v s') E s := by
  obtain ⟨Sz, Sti, Sto, S1, S2, S3, SL1, SL2, SL3, b1, b2, b3⟩ := S
  have ne : ∀ {p q : Nat}, p ≠ q → @Ne Addr p q := fun h => h
  have b1' : @LT.lt Nat _ l1 n := b1
  have b2' : @LT.lt Nat _ l2 n := b2
  have b3' : @LT.lt Nat _ l3 n := b3
  show wpAny _ _ (field (.ref (n + 5)) 2 >>= _) _ _ _
  refine wpAny_bind (wpAny_field Sz rfl (x := .bool false) rfl ?_)
  show wpAny _ _ (field (.ref (n + 5)) 3 >>= _) _ _ _
  refine wpAny_bind (wpAny_field Sz rfl (x := .ref (n + 3)) rfl ?_)
  refine wpAny_bind (wpAny_seqItems Sti rfl ?_)
  show wpAny _ _ (Builtin.SmallTypes.ownedTupleIsFree (.ref (n + 5)) >>= _) _ _ _
  refine wpAny_bind ?_
  unfold Builtin.SmallTypes.ownedTupleIsFree
  refine wpAny_bind (wpAny_field Sz rfl (x := .none) rfl (wpAny_pure ?_))
  simp only [if_true]
  refine wpAny_bind (wpAny_rule ?_)
  refine wpAny_bind (wpAny_field Sz rfl (x := .ref (n + 4)) rfl ?_)
  refine wpAny_bind (wpAny_setField_rec Sz (by simp) fun h₁ hz₁ hs₁ => ?_)
  replace hz₁ : h₁.get? (n + 5) = some (zOb .ellipsis (.bool false) (n + 3) (n + 4)) := hz₁
  refine wpAny_bind ?_
  simp only [List.zipIdx_cons, List.zipIdx_nil, List.forIn_cons, List.forIn_nil]
  have to1 : h₁.get? (n + 4) = some (tuOb #[a, b, c]) := (hs₁.2 _ (ne (by lia))).trans Sto
  -- the first
  refine wpAny_bind (wpAny_bind (wpAny_onRaise ?_))
  show wpAny _ _ (Builtin.SmallTypes.nextOf (.ref n) >>= _) _ _ _
  refine wpAny_bind (wpAny_nextOf_list_item (S1.extBut hs₁.extBut (ne (by lia))) (SL1.extBut hs₁.extBut (ne (by lia))) hx fun h₂ i1₂ hs₂ => wpAny_pure ?_)
  have to2 : h₂.get? (n + 4) = some (tuOb #[a, b, c]) := (hs₂.2 _ (ne (by lia))).trans to1
  refine wpAny_bind (wpAny_seqItems to2 rfl ?_)
  refine wpAny_bind (upd_tup to2 (by simp) fun h₃ to3 hs₃ => ?_)
  replace to3 : h₃.get? (n + 4) = some (tuOb #[x, b, c]) := to3
  refine wpAny_bind (wpAny_letGo (wpAny_pure ?_))
  -- the second
  have S2' : h₃.IsListIter (n + 1) l2 k := ((S2.extBut hs₁.extBut (ne (by lia))).extBut hs₂.extBut (ne (by lia))).extBut hs₃.extBut (ne (by lia))
  have SL2' : h₃.IsList l2 ys := ((SL2.extBut hs₁.extBut (ne (by lia))).extBut hs₂.extBut (ne (by lia))).extBut hs₃.extBut (ne (by lia))
  refine wpAny_bind (wpAny_bind (wpAny_onRaise ?_))
  show wpAny _ _ (Builtin.SmallTypes.nextOf (.ref (n + 1)) >>= _) _ _ _
  refine wpAny_bind (wpAny_nextOf_list_item S2' SL2' hy fun h₄ i2₄ hs₄ => wpAny_pure ?_)
  have to4 : h₄.get? (n + 4) = some (tuOb #[x, b, c]) := (hs₄.2 _ (ne (by lia))).trans to3
  refine wpAny_bind (wpAny_seqItems to4 rfl ?_)
  refine wpAny_bind (upd_tup to4 (by simp) fun h₅ to5 hs₅ => ?_)
  replace to5 : h₅.get? (n + 4) = some (tuOb #[x, y, c]) := to5
  refine wpAny_bind (wpAny_letGo (wpAny_pure ?_))
  -- the third
  have S3' : h₅.IsListIter (n + 2) l3 k := ((((S3.extBut hs₁.extBut (ne (by lia))).extBut hs₂.extBut (ne (by lia))).extBut hs₃.extBut (ne (by lia))).extBut hs₄.extBut (ne (by lia))).extBut hs₅.extBut (ne (by lia))
  have SL3' : h₅.IsList l3 zs := ((((SL3.extBut hs₁.extBut (ne (by lia))).extBut hs₂.extBut (ne (by lia))).extBut hs₃.extBut (ne (by lia))).extBut hs₄.extBut (ne (by lia))).extBut hs₅.extBut (ne (by lia))
  refine wpAny_bind (wpAny_bind (wpAny_onRaise ?_))
  show wpAny _ _ (Builtin.SmallTypes.nextOf (.ref (n + 2)) >>= _) _ _ _
  refine wpAny_bind (wpAny_nextOf_list_item S3' SL3' hz fun h₆ i3₆ hs₆ => wpAny_pure ?_)
  have to6 : h₆.get? (n + 4) = some (tuOb #[x, y, c]) := (hs₆.2 _ (ne (by lia))).trans to5
  refine wpAny_bind (wpAny_seqItems to6 rfl ?_)
  refine wpAny_bind (upd_tup to6 (by simp) fun h₇ to7 hs₇ => ?_)
  replace to7 : h₇.get? (n + 4) = some (tuOb #[x, y, z]) := to7
  refine wpAny_bind (wpAny_letGo (wpAny_pure (wpAny_pure ?_)))
  refine wpAny_bind (wpAny_seqItems to7 rfl ?_)
  refine wpAny_bind (wpAny_newTuple ?_)
  have sz : h₇.objs.size = s.heap.objs.size := by rw [hs₇.1, hs₆.1, hs₅.1, hs₄.1, hs₃.1, hs₂.1, hs₁.1]
  have k7 : ∀ q o, q ≠ n + 5 → q ≠ n + 4 → q ≠ n → q ≠ n + 1 → q ≠ n + 2 → s.heap.get? q = some o → h₇.get? q = some o := fun q o c1 c2 c3 c4 c5 e =>
    (hs₇.2 _ c2).trans ((hs₆.2 _ c5).trans ((hs₅.2 _ c2).trans ((hs₄.2 _ c4).trans ((hs₃.2 _ c2).trans ((hs₂.2 _ c3).trans ((hs₁.2 _ c1).trans e))))))
  have z7 : h₇.get? (n + 5) = some (zOb .ellipsis (.bool false) (n + 3) (n + 4)) :=
    (hs₇.2 _ (ne (by lia))).trans ((hs₆.2 _ (ne (by lia))).trans ((hs₅.2 _ (ne (by lia))).trans ((hs₄.2 _ (ne (by lia))).trans ((hs₃.2 _ (ne (by lia))).trans ((hs₂.2 _ (ne (by lia))).trans hz₁)))))
  have i17 : h₇.IsListIter n l1 (k + 1) := ((((i1₂.extBut hs₃.extBut (ne (by lia))).extBut hs₄.extBut (ne (by lia))).extBut hs₅.extBut (ne (by lia))).extBut hs₆.extBut (ne (by lia))).extBut hs₇.extBut (ne (by lia))
  have i27 : h₇.IsListIter (n + 1) l2 (k + 1) := ((i2₄.extBut hs₅.extBut (ne (by lia))).extBut hs₆.extBut (ne (by lia))).extBut hs₇.extBut (ne (by lia))
  have i37 : h₇.IsListIter (n + 2) l3 (k + 1) := i3₆.extBut hs₇.extBut (ne (by lia))
  have zlt : @LT.lt Nat _ (n + 5) h₇.objs.size := Heap.lt_size z7
  show wpAny _ _ (Builtin.SmallTypes.ownedTupleHandOut (.ref (n + 5)) (.ref h₇.objs.size) >>= _) _ _ _
  refine wpAny_bind ?_
  unfold Builtin.SmallTypes.ownedTupleHandOut
  have z8 : (h₇.push (tuOb #[x, y, z])).get? (n + 5) = some (zOb .ellipsis (.bool false) (n + 3) (n + 4)) := Heap.get?_push_of_some _ z7
  refine wpAny_bind (wpAny_setField_rec z8 (by simp) fun h₉ hz₉ hs₉ => ?_)
  refine wpAny_setField_rec hz₉ (by simp) fun h₁₀ hz₁₀ hs₁₀ => ?_
  have up : ∀ q o, q ≠ n + 5 → h₇.get? q = some o → h₁₀.get? q = some o := fun q o c1 e => (hs₁₀.2 _ c1).trans ((hs₉.2 _ c1).trans (Heap.get?_push_of_some _ e))
  have T10 : h₁₀.get? h₇.objs.size = some (tuOb #[x, y, z]) := (hs₁₀.2 _ (Nat.ne_of_gt zlt)).trans ((hs₉.2 _ (Nat.ne_of_gt zlt)).trans (Heap.get?_push_size _ rfl))
  have sz10 : h₁₀.objs.size = h₇.objs.size + 1 := by rw [hs₁₀.1, hs₉.1, Heap.size_push]
  replace hz₁₀ : h₁₀.get? (n + 5) = some (zOb (rawInt h₇.objs.size) (.bool false) (n + 3) (n + 4)) := hz₁₀
  rw [sz] at T10 sz10 hz₁₀
  refine wpAny_pure ⟨_, rfl, ?_⟩
  show Q (.ref h₇.objs.size) _
  rw [sz]
  refine hQ h₁₀ ⟨hz₁₀, up _ _ (ne (by lia)) (k7 _ _ (ne (by lia)) (ne (by lia)) (ne (by lia)) (ne (by lia)) (ne (by lia)) Sti), up _ _ (ne (by lia)) to7, i17.at fun o e => up _ o (ne (by lia)) e, i27.at fun o e => up _ o (ne (by lia)) e, i37.at fun o e => up _ o (ne (by lia)) e,
    SL1.at fun o e => up _ o (ne (by lia)) (k7 _ o (ne (by lia)) (ne (by lia)) (ne (by lia)) (ne (by lia)) (ne (by lia)) e), SL2.at fun o e => up _ o (ne (by lia)) (k7 _ o (ne (by lia)) (ne (by lia)) (ne (by lia)) (ne (by lia)) (ne (by lia)) e),
    SL3.at fun o e => up _ o (ne (by lia)) (k7 _ o (ne (by lia)) (ne (by lia)) (ne (by lia)) (ne (by lia)) (ne (by lia)) e), b1, b2, b3⟩ T10 sz10 fun q o hq e => ?_
  have hq' : (q : Nat) < n ∨ n + 6 ≤ (q : Nat) := hq
  exact up _ _ (ne (by lia)) (k7 _ _ (ne (by lia)) (ne (by lia)) (ne (by lia)) (ne (by lia)) (ne (by lia)) e)
end
end Mine
end
section
open PySem PySem.W PyProof.Rows PySem.Calls
set_option maxRecDepth 100000
set_option maxHeartbeats 4000000
namespace Mine
section
variable {prog : Program} {w : World} {A : Around} {E : Value → Shared → Prop} {s : Shared}
/-- the owned tuple is still alive -/
theorem not_free {n T : Nat} {l1 l2 l3 : Addr} {xs ys zs : Array Value} {k : Nat} {a b c : Value} {bb : Bool} {oT : Obj} {Q : Bool → Shared → Prop} (S : Zs n l1 l2 l3 xs ys zs k (rawInt T) (.bool bb) a b c s.heap) (hT : s.heap.get? T = some oT)
    (hQ : ∀ h', Zs n l1 l2 l3 xs ys zs k (rawInt T) (.bool true) a b c h' → h'.objs.size = s.heap.objs.size → (∀ q o, q ≠ n + 5 → s.heap.get? q = some o → h'.get? q = some o) → Q false { s with heap := h' }) :
    wpAny (model prog w) A (Builtin.SmallTypes.ownedTupleIsFree (.ref (n + 5))) Q E s := by
  unfold Builtin.SmallTypes.ownedTupleIsFree
  refine wpAny_bind (wpAny_field S.z rfl (x := .int T 0) rfl ?_)
  show wpAny _ _ (loadIfAlive ((T : Int).toNat) >>= _) _ _ _
  rw [Int.toNat_natCast]
  refine wpAny_bind (w_alive ?_)
  rw [hT]
  show wpAny _ _ (field (.ref (n + 5)) 1 >>= _) _ _ _
  refine wpAny_bind (wpAny_field S.z rfl (x := .bool bb) rfl ?_)
  cases bb with
  | true =>
    show wpAny _ _ (pure false) _ _ _
    exact wpAny_pure (hQ s.heap S rfl fun _ _ _ e => e)
  | false =>
    show wpAny _ _ (setField (.ref (n + 5)) 1 (.bool true) >>= fun _ => pure false) _ _ _
    refine wpAny_bind (wpAny_setField_rec S.z (by simp) fun h₁ hz₁ hs₁ => wpAny_pure ?_)
    have ne : ∀ {p q : Nat}, p ≠ q → @Ne Addr p q := fun h => h
    have b1' : @LT.lt Nat _ l1 n := S.b1
    have b2' : @LT.lt Nat _ l2 n := S.b2
    have b3' : @LT.lt Nat _ l3 n := S.b3
    refine hQ h₁ ⟨hz₁, (hs₁.2 _ (ne (by lia))).trans S.ti, (hs₁.2 _ (ne (by lia))).trans S.to, S.i1.extBut hs₁.extBut (ne (by lia)), S.i2.extBut hs₁.extBut (ne (by lia)), S.i3.extBut hs₁.extBut (ne (by lia)),
      S.L1.extBut hs₁.extBut (ne (by lia)), S.L2.extBut hs₁.extBut (ne (by lia)), S.L3.extBut hs₁.extBut (ne (by lia)), S.b1, S.b2, S.b3⟩ hs₁.1 fun q o hq e => (hs₁.2 _ hq).trans e
theorem next_more {n T : Nat} {l1 l2 l3 : Addr} {xs ys zs : Array Value} {k : Nat} {a b c x y z : Value} {bb : Bool} {oT : Obj} {Q : Value → Shared → Prop} (S : Zs n l1 l2 l3 xs ys zs k (rawInt T) (.bool bb) a b c s.heap) (hT : s.heap.get? T = some oT)
    (hx : xs[k]? = some x) (hy : ys[k]? = some y) (hz : zs[k]? = some z)
    (hQ : ∀ h', Zs n l1 l2 l3 xs ys zs (k + 1) (rawInt T) (.bool true) a b c h' → h'.get? s.heap.objs.size = some (tuOb #[x, y, z]) → h'.objs.size = s.heap.objs.size + 1 →
      (∀ q o, (@LT.lt Nat _ q n ∨ @LE.le Nat _ (n + 6) q) → s.heap.get? q = some o → h'.get? q = some o) → Q (.ref s.heap.objs.size) { s with heap := h' }) :
    wpAny (model prog w) A (Builtin.«zip.__next__» ⟨[.ref (n + 5)], []⟩) (fun fin s' => ∃ v, fin = .done (.ret v) ∧ Q v s') E s := by
  have ne : ∀ {p q : Nat}, p ≠ q → @Ne Addr p q := fun h => h
  show wpAny _ _ (field (.ref (n + 5)) 2 >>= _) _ _ _
  refine wpAny_bind (wpAny_field S.z rfl (x := .bool false) rfl ?_)
  show wpAny _ _ (field (.ref (n + 5)) 3 >>= _) _ _ _
  refine wpAny_bind (wpAny_field S.z rfl (x := .ref (n + 3)) rfl ?_)
  refine wpAny_bind (wpAny_seqItems S.ti rfl ?_)
  show wpAny _ _ (Builtin.SmallTypes.ownedTupleIsFree (.ref (n + 5)) >>= _) _ _ _
  refine wpAny_bind (not_free S hT fun h0 S0 sz0 k0 => ?_)
  have b1' : @LT.lt Nat _ l1 n := S.b1
  have b2' : @LT.lt Nat _ l2 n := S.b2
  have b3' : @LT.lt Nat _ l3 n := S.b3
  simp only [Bool.false_eq_true, if_false]
  refine wpAny_bind ?_
  simp only [List.forIn_toArray, List.forIn_cons, List.forIn_nil]
  refine wpAny_bind (wpAny_bind (wpAny_holding ?_))
  show wpAny _ _ (Builtin.SmallTypes.nextOf (.ref n) >>= _) _ _ _
  refine wpAny_bind (wpAny_nextOf_list_item S0.i1 S0.L1 hx fun h₂ i1₂ hs₂ => wpAny_pure ?_)
  refine wpAny_pure ?_
  refine wpAny_bind (wpAny_bind (wpAny_holding ?_))
  show wpAny _ _ (Builtin.SmallTypes.nextOf (.ref (n + 1)) >>= _) _ _ _
  refine wpAny_bind (wpAny_nextOf_list_item (S0.i2.extBut hs₂.extBut (ne (by lia))) (S0.L2.extBut hs₂.extBut (ne (by lia))) hy fun h₄ i2₄ hs₄ => wpAny_pure ?_)
  refine wpAny_pure ?_
  refine wpAny_bind (wpAny_bind (wpAny_holding ?_))
  show wpAny _ _ (Builtin.SmallTypes.nextOf (.ref (n + 2)) >>= _) _ _ _
  refine wpAny_bind (wpAny_nextOf_list_item ((S0.i3.extBut hs₂.extBut (ne (by lia))).extBut hs₄.extBut (ne (by lia))) ((S0.L3.extBut hs₂.extBut (ne (by lia))).extBut hs₄.extBut (ne (by lia))) hz fun h₆ i3₆ hs₆ => wpAny_pure ?_)
  refine wpAny_pure (wpAny_pure ?_)
  have sz : h₆.objs.size = s.heap.objs.size := by rw [hs₆.1, hs₄.1, hs₂.1, sz0]
  show wpAny _ _ (newTuple [x, y, z] >>= _) _ _ _
  refine wpAny_bind (wpAny_newTuple ?_)
  have up : ∀ q o, h₆.get? q = some o → (h₆.push (tuOb #[x, y, z])).get? q = some o := fun q o e => Heap.get?_push_of_some _ e
  have k6 : ∀ q o, q ≠ n → q ≠ n + 1 → q ≠ n + 2 → h0.get? q = some o → (h₆.push (tuOb #[x, y, z])).get? q = some o := fun q o c1 c2 c3 e => up _ _ ((hs₆.2 _ c3).trans ((hs₄.2 _ c2).trans ((hs₂.2 _ c1).trans e)))
  have T9 : (h₆.push (tuOb #[x, y, z])).get? h₆.objs.size = some (tuOb #[x, y, z]) := Heap.get?_push_size _ rfl
  have sz9 : (h₆.push (tuOb #[x, y, z])).objs.size = h₆.objs.size + 1 := Heap.size_push ..
  rw [sz] at T9 sz9
  refine wpAny_pure ⟨_, rfl, ?_⟩
  show Q (.ref h₆.objs.size) _
  rw [sz]
  refine hQ _ ⟨k6 _ _ (ne (by lia)) (ne (by lia)) (ne (by lia)) S0.z, k6 _ _ (ne (by lia)) (ne (by lia)) (ne (by lia)) S0.ti, k6 _ _ (ne (by lia)) (ne (by lia)) (ne (by lia)) S0.to,
    ((i1₂.extBut hs₄.extBut (ne (by lia))).extBut hs₆.extBut (ne (by lia))).at fun o e => up _ o e, (i2₄.extBut hs₆.extBut (ne (by lia))).at fun o e => up _ o e, i3₆.at fun o e => up _ o e,
    S0.L1.at fun o e => k6 _ o (ne (by lia)) (ne (by lia)) (ne (by lia)) e, S0.L2.at fun o e => k6 _ o (ne (by lia)) (ne (by lia)) (ne (by lia)) e, S0.L3.at fun o e => k6 _ o (ne (by lia)) (ne (by lia)) (ne (by lia)) e, S.b1, S.b2, S.b3⟩ T9 sz9 fun q o hq e => ?_
  have hq' : (q : Nat) < n ∨ n + 6 ≤ (q : Nat) := hq
  exact k6 _ _ (ne (by lia)) (ne (by lia)) (ne (by lia)) (k0 _ _ (ne (by lia)) e)
theorem next_end {n T : Nat} {l1 l2 l3 : Addr} {xs ys zs : Array Value} {k : Nat} {a b c : Value} {bb : Bool} {oT : Obj} {Q : Fin → Shared → Prop} (hh : A.handled = none) (S : Zs n l1 l2 l3 xs ys zs k (rawInt T) (.bool bb) a b c s.heap) (hT : s.heap.get? T = some oT)
    (hx : xs[k]? = none)
    (hE : ∀ h' e, (∀ q o, (@LT.lt Nat _ q n ∨ @LE.le Nat _ (n + 6) q) → s.heap.get? q = some o → h'.get? q = some o) → (∃ o, h'.get? e = some o ∧ o.cls = .type "StopIteration") → E (.ref e) { s with heap := h' }) :
    wpAny (model prog w) A (Builtin.«zip.__next__» ⟨[.ref (n + 5)], []⟩) Q E s := by
  have ne : ∀ {p q : Nat}, p ≠ q → @Ne Addr p q := fun h => h
  show wpAny _ _ (field (.ref (n + 5)) 2 >>= _) _ _ _
  refine wpAny_bind (wpAny_field S.z rfl (x := .bool false) rfl ?_)
  show wpAny _ _ (field (.ref (n + 5)) 3 >>= _) _ _ _
  refine wpAny_bind (wpAny_field S.z rfl (x := .ref (n + 3)) rfl ?_)
  refine wpAny_bind (wpAny_seqItems S.ti rfl ?_)
  show wpAny _ _ (Builtin.SmallTypes.ownedTupleIsFree (.ref (n + 5)) >>= _) _ _ _
  refine wpAny_bind (not_free S hT fun h0 S0 sz0 k0 => ?_)
  simp only [Bool.false_eq_true, if_false]
  refine wpAny_bind ?_
  simp only [List.forIn_toArray, List.forIn_cons, List.forIn_nil]
  refine wpAny_bind (wpAny_bind (wpAny_holding ?_))
  show wpAny _ _ (Builtin.SmallTypes.nextOf (.ref n) >>= _) _ _ _
  refine wpAny_bind (wpAny_nextOf_list_end hh S0.i1 S0.L1 hx fun h₂ e hs₂ he => hE h₂ e (fun q o hq e => ?_) he)
  have hq' : (q : Nat) < n ∨ n + 6 ≤ (q : Nat) := hq
  exact hs₂ _ _ (ne (by lia)) (k0 _ _ (ne (by lia)) e)
theorem z_type {n : Nat} {l1 l2 l3 : Addr} {xs ys zs : Array Value} {k : Nat} {f0 f1 a b c : Value} (S : Zs n l1 l2 l3 xs ys zs k f0 f1 a b c s.heap) : s.TypeIs (.ref (n + 5)) "zip" := ⟨_, S.z, rfl⟩
theorem pn_first {n : Nat} {l1 l2 l3 : Addr} {xs ys zs : Array Value} {k : Nat} {a b c x y z : Value} {Q : Option Value → Shared → Prop} (S : Zs n l1 l2 l3 xs ys zs k .none (.bool false) a b c s.heap)
    (hx : xs[k]? = some x) (hy : ys[k]? = some y) (hz : zs[k]? = some z)
    (hQ : ∀ h', Zs n l1 l2 l3 xs ys zs (k + 1) (rawInt s.heap.objs.size) (.bool false) x y z h' → h'.get? s.heap.objs.size = some (tuOb #[x, y, z]) → h'.objs.size = s.heap.objs.size + 1 →
      (∀ q o, (@LT.lt Nat _ q n ∨ @LE.le Nat _ (n + 6) q) → s.heap.get? q = some o → h'.get? q = some o) → Q (some (.ref s.heap.objs.size)) { s with heap := h' }) :
    wpAny (model prog w) A (pyNext (.ref (n + 5))) Q E s := by
  unfold pyNext
  exact wpAny_bind (wpAny_attempt (wpAny_callSpecial?_slot (name := Str.ofString "__next__") (z_type S) F.slot_zip_next (wpAny_call_entry F.slot_zip_next (z_type S) F.entry_zip_next
    (next_first S hx hy hz fun h' a1 a2 a3 a4 => wpAny_pure (hQ h' a1 a2 a3 a4)) (F.args_zip_next_1 _))))
theorem pn_more {n T : Nat} {l1 l2 l3 : Addr} {xs ys zs : Array Value} {k : Nat} {a b c x y z : Value} {bb : Bool} {oT : Obj} {Q : Option Value → Shared → Prop} (S : Zs n l1 l2 l3 xs ys zs k (rawInt T) (.bool bb) a b c s.heap) (hT : s.heap.get? T = some oT)
    (hx : xs[k]? = some x) (hy : ys[k]? = some y) (hz : zs[k]? = some z)
    (hQ : ∀ h', Zs n l1 l2 l3 xs ys zs (k + 1) (rawInt T) (.bool true) a b c h' → h'.get? s.heap.objs.size = some (tuOb #[x, y, z]) → h'.objs.size = s.heap.objs.size + 1 →
      (∀ q o, (@LT.lt Nat _ q n ∨ @LE.le Nat _ (n + 6) q) → s.heap.get? q = some o → h'.get? q = some o) → Q (some (.ref s.heap.objs.size)) { s with heap := h' }) :
    wpAny (model prog w) A (pyNext (.ref (n + 5))) Q E s := by
  unfold pyNext
  exact wpAny_bind (wpAny_attempt (wpAny_callSpecial?_slot (name := Str.ofString "__next__") (z_type S) F.slot_zip_next (wpAny_call_entry F.slot_zip_next (z_type S) F.entry_zip_next
    (next_more S hT hx hy hz fun h' a1 a2 a3 a4 => wpAny_pure (hQ h' a1 a2 a3 a4)) (F.args_zip_next_1 _))))
theorem pn_end {n T : Nat} {l1 l2 l3 : Addr} {xs ys zs : Array Value} {k : Nat} {a b c : Value} {bb : Bool} {oT : Obj} {Q : Option Value → Shared → Prop} (hh : A.handled = none) (S : Zs n l1 l2 l3 xs ys zs k (rawInt T) (.bool bb) a b c s.heap) (hT : s.heap.get? T = some oT)
    (hx : xs[k]? = none) (hQ : ∀ h', (∀ q o, (@LT.lt Nat _ q n ∨ @LE.le Nat _ (n + 6) q) → s.heap.get? q = some o → h'.get? q = some o) → Q none { s with heap := h' }) :
    wpAny (model prog w) A (pyNext (.ref (n + 5))) Q E s := by
  unfold pyNext
  refine wpAny_bind (wpAny_attempt (wpAny_callSpecial?_slot (name := Str.ofString "__next__") (z_type S) F.slot_zip_next (wpAny_call_entry F.slot_zip_next (z_type S) F.entry_zip_next
    (next_end hh S hT hx fun h' e hk he => ?_) (F.args_zip_next_1 _))))
  obtain ⟨o, ho, hc⟩ := he
  refine wpAny_bind (wpAny_isInstance (T := "StopIteration") (b := true) ⟨o, ho, hc⟩ isSubtype_stop ?_)
  exact wpAny_pure (hQ _ hk)
end
end Mine
end
section
open PySem PySem.W PyProof.Rows PySem.Calls
set_option maxRecDepth 100000
set_option maxHeartbeats 4000000
namespace Mine
theorem zip_no_len : typeLookup (.type "zip") "__len__" = pure none := by rw [typeLookup_type, builtinLookup_eq_fast]; kernel_rfl
theorem zip_no_hint : typeLookup (.type "zip") "__length_hint__" = pure none := by rw [typeLookup_type, builtinLookup_eq_fast]; kernel_rfl
section
variable {prog : Program} {w : World} {A : Around} {E : Value → Shared → Prop} {s : Shared} {R : Result → Shared → Prop}
abbrev liO (acc : Array Value) (c : Nat) : Obj := { cls := .type "list", dict := none, data := .seq acc c, slots := #[] }
theorem ext_item {S I : Addr} {res : Value} {acc : Array Value} (hz : acc.size ≤ 8)
    (h : wpAny (model prog w) A.in1 (pyNext (.ref I)) (fun r s₁ => ∃ v c, r = some v ∧ s₁.heap.get? S = some (liO acc c) ∧ ∀ h' c', h'.get? S = some (liO (acc.push v) c') → Heap.SameBut S s₁.heap h' → codeAny (model prog w) A (.builtin "list.extend.loop" ⟨[.ref S, .ref I, res], []⟩) R { s₁ with heap := h' }) (fun e s' => R (.error e) s') s) :
    codeAny (model prog w) A (.builtin "list.extend.loop" ⟨[.ref S, .ref I, res], []⟩) R s := by
  refine codeAny_builtin F.entry_extend_loop ?_
  rw [Around.under_plainId F.plain_extend_loop _]
  show wpAny _ A.in1 (pyNext (.ref I) >>= _) _ _ s
  refine wpAny_bind (wpAny_mono h (fun r s₁ h₁ => ?_) fun _ _ e => e)
  obtain ⟨v, c, rfl, hS, k⟩ := h₁
  show wpAny _ A.in1 (updateSeq S (·.push v) >>= _) _ _ _
  refine wpAny_bind ?_
  refine wpAny_updateSeq hS rfl (wpAny_pure ⟨plainId_quiet F.plain_extend_loop _, k _ _ (Heap.get?_update_self _ hS rfl) (Heap.SameBut.update ..)⟩)
    (by rw [sizeLine_eq]; lia) (by show (acc.push v).size ≤ sizeLine + 1; rw [Array.size_push, sizeLine_eq]; lia)
theorem ext_done {S I : Addr} {res : Value}
    (h : wpAny (model prog w) A.in1 (pyNext (.ref I)) (fun r s₁ => r = none ∧ R (.ok (.ret res)) s₁) (fun e s' => R (.error e) s') s) :
    codeAny (model prog w) A (.builtin "list.extend.loop" ⟨[.ref S, .ref I, res], []⟩) R s := by
  refine codeAny_builtin F.entry_extend_loop ?_
  rw [Around.under_plainId F.plain_extend_loop _]
  show wpAny _ A.in1 (pyNext (.ref I) >>= _) _ _ s
  refine wpAny_bind (wpAny_mono h (fun r s₁ h₁ => ?_) fun _ _ e => e)
  obtain ⟨rfl, k⟩ := h₁
  exact wpAny_pure k
theorem ext_zip {n c0 : Nat} {l1 l2 l3 : Addr} {x0 x1 x2 x3 y0 y1 y2 y3 z0 z1 z2 z3 res : Value} (hh : A.handled = none)
    (Z : Zs n l1 l2 l3 #[x0, x1, x2, x3] #[y0, y1, y2, y3] #[z0, z1, z2, z3] 0 .none (.bool false) .none .none .none s.heap) (hsz : s.heap.objs.size = n + 7) (hS : s.heap.get? (n + 6) = some (liO #[] c0))
    (hR : ∀ h' c', (∀ q o, @LT.lt Nat _ q n → s.heap.get? q = some o → h'.get? q = some o) → h'.get? (n + 6) = some (liO #[.ref (n + 7), .ref (n + 8), .ref (n + 9), .ref (n + 10)] c') →
      h'.get? (n + 7) = some (tuOb #[x0, y0, z0]) → h'.get? (n + 8) = some (tuOb #[x1, y1, z1]) → h'.get? (n + 9) = some (tuOb #[x2, y2, z2]) → h'.get? (n + 10) = some (tuOb #[x3, y3, z3]) → R (.ok (.ret res)) { s with heap := h' }) :
    codeAny (model prog w) A (.builtin "list.extend.loop" ⟨[.ref (n + 6), .ref (n + 5), res], []⟩) R s := by
  have ne : ∀ {p q : Nat}, p ≠ q → @Ne Addr p q := fun h => h
  have hb : ∀ {q : Nat}, n + 6 ≤ q → (@LT.lt Nat _ q n ∨ @LE.le Nat _ (n + 6) q) := fun h => .inr h
  refine ext_item (by simp) (pn_first Z rfl rfl rfl fun h1 Z1 T1 sz1 k1 => ⟨_, c0, rfl, k1 _ _ (hb (Nat.le_refl _)) hS, fun h2 c2 S2 B2 => ?_⟩)
  rw [hsz] at Z1 T1 sz1 S2
  have sz2 : h2.objs.size = n + 8 := by rw [B2.1]; exact sz1
  have Z2 := Z1.keep (h' := h2) fun q o hq e => (B2.2 _ (ne (Nat.ne_of_lt hq))).trans e
  have T12 : h2.get? (n + 7) = some (tuOb #[x0, y0, z0]) := (B2.2 _ (ne (by lia))).trans T1
  have o2 : ∀ q o, @LT.lt Nat _ q n → s.heap.get? q = some o → h2.get? q = some o := fun q o hq e => (B2.2 _ (ne (by have : (q : Nat) < n := hq; lia))).trans (k1 q o (.inl hq) e)
  refine ext_item (by simp) (pn_more (s := { s with heap := h2 }) Z2 T12 rfl rfl rfl fun h3 Z3 T3 sz3 k3 => ⟨_, c2, rfl, k3 _ _ (hb (Nat.le_refl _)) S2, fun h4 c4 S4 B4 => ?_⟩)
  replace T3 : h3.get? h2.objs.size = some (tuOb #[x1, y1, z1]) := T3
  replace sz3 : h3.objs.size = h2.objs.size + 1 := sz3
  replace S4 : h4.get? (n + 6) = some (liO #[.ref (n + 7), .ref h2.objs.size] c4) := S4
  rw [sz2] at T3 sz3 S4
  have sz4 : h4.objs.size = n + 9 := by rw [B4.1]; exact sz3
  have Z4 := Z3.keep (h' := h4) fun q o hq e => (B4.2 _ (ne (Nat.ne_of_lt hq))).trans e
  have T14 : h4.get? (n + 7) = some (tuOb #[x0, y0, z0]) := (B4.2 _ (ne (by lia))).trans (k3 _ _ (hb (by lia)) T12)
  have T24 : h4.get? (n + 8) = some (tuOb #[x1, y1, z1]) := (B4.2 _ (ne (by lia))).trans T3
  have o4 : ∀ q o, @LT.lt Nat _ q n → s.heap.get? q = some o → h4.get? q = some o := fun q o hq e => (B4.2 _ (ne (by have : (q : Nat) < n := hq; lia))).trans (k3 q o (.inl hq) (o2 q o hq e))
  refine ext_item (by simp) (pn_more (s := { s with heap := h4 }) Z4 T14 rfl rfl rfl fun h5 Z5 T5 sz5 k5 => ⟨_, c4, rfl, k5 _ _ (hb (Nat.le_refl _)) S4, fun h6 c6 S6 B6 => ?_⟩)
  replace T5 : h5.get? h4.objs.size = some (tuOb #[x2, y2, z2]) := T5
  replace sz5 : h5.objs.size = h4.objs.size + 1 := sz5
  replace S6 : h6.get? (n + 6) = some (liO #[.ref (n + 7), .ref (n + 8), .ref h4.objs.size] c6) := S6
  rw [sz4] at T5 sz5 S6
  have sz6 : h6.objs.size = n + 10 := by rw [B6.1]; exact sz5
  have Z6 := Z5.keep (h' := h6) fun q o hq e => (B6.2 _ (ne (Nat.ne_of_lt hq))).trans e
  have T16 : h6.get? (n + 7) = some (tuOb #[x0, y0, z0]) := (B6.2 _ (ne (by lia))).trans (k5 _ _ (hb (by lia)) T14)
  have T26 : h6.get? (n + 8) = some (tuOb #[x1, y1, z1]) := (B6.2 _ (ne (by lia))).trans (k5 _ _ (hb (by lia)) T24)
  have T36 : h6.get? (n + 9) = some (tuOb #[x2, y2, z2]) := (B6.2 _ (ne (by lia))).trans T5
  have o6 : ∀ q o, @LT.lt Nat _ q n → s.heap.get? q = some o → h6.get? q = some o := fun q o hq e => (B6.2 _ (ne (by have : (q : Nat) < n := hq; lia))).trans (k5 q o (.inl hq) (o4 q o hq e))
  refine ext_item (by simp) (pn_more (s := { s with heap := h6 }) Z6 T16 rfl rfl rfl fun h7 Z7 T7 sz7 k7 => ⟨_, c6, rfl, k7 _ _ (hb (Nat.le_refl _)) S6, fun h8 c8 S8 B8 => ?_⟩)
  replace T7 : h7.get? h6.objs.size = some (tuOb #[x3, y3, z3]) := T7
  replace sz7 : h7.objs.size = h6.objs.size + 1 := sz7
  replace S8 : h8.get? (n + 6) = some (liO #[.ref (n + 7), .ref (n + 8), .ref (n + 9), .ref h6.objs.size] c8) := S8
  rw [sz6] at T7 sz7 S8
  have Z8 := Z7.keep (h' := h8) fun q o hq e => (B8.2 _ (ne (Nat.ne_of_lt hq))).trans e
  have T18 : h8.get? (n + 7) = some (tuOb #[x0, y0, z0]) := (B8.2 _ (ne (by lia))).trans (k7 _ _ (hb (by lia)) T16)
  have T28 : h8.get? (n + 8) = some (tuOb #[x1, y1, z1]) := (B8.2 _ (ne (by lia))).trans (k7 _ _ (hb (by lia)) T26)
  have T38 : h8.get? (n + 9) = some (tuOb #[x2, y2, z2]) := (B8.2 _ (ne (by lia))).trans (k7 _ _ (hb (by lia)) T36)
  have T48 : h8.get? (n + 10) = some (tuOb #[x3, y3, z3]) := (B8.2 _ (ne (by lia))).trans T7
  have o8 : ∀ q o, @LT.lt Nat _ q n → s.heap.get? q = some o → h8.get? q = some o := fun q o hq e => (B8.2 _ (ne (by have : (q : Nat) < n := hq; lia))).trans (k7 q o (.inl hq) (o6 q o hq e))
  refine ext_done (pn_end (s := { s with heap := h8 }) hh Z8 T18 rfl fun h9 k9 => ⟨rfl, ?_⟩)
  exact hR h9 c8 (fun q o hq e => k9 q o (.inl hq) (o8 q o hq e)) (k9 _ _ (hb (Nat.le_refl _)) S8) (k9 _ _ (hb (by lia)) T18) (k9 _ _ (hb (by lia)) T28) (k9 _ _ (hb (by lia)) T38) (k9 _ _ (hb (by lia)) T48)
end
end Mine
end
section
open PySem PySem.W PyProof.Rows PySem.Calls
set_option maxRecDepth 100000
set_option maxHeartbeats 4000000
namespace Mine
section
variable {prog : Program} {w : World} {A : Around} {E : Value → Shared → Prop} {s : Shared} {h₀ : Heap} {L : Addr} {m : Str → Option Value} {news : List (Addr × Obj)}
theorem zipK {l1 l2 l3 : Addr} {c1 c2 c3 : Nat} {x0 x1 x2 x3 v0 v1 v2 v3 z0 z1 z2 z3 : Value} {Q : Value → Shared → Prop} (F : Fr h₀ L s.heap m) (N : News h₀ L s.heap news)
    (m1 : (l1, W.listOf [x0, x1, x2, x3].toArray c1) ∈ news) (m2 : (l2, W.listOf [v0, v1, v2, v3].toArray c2) ∈ news) (m3 : (l3, W.listOf [z0, z1, z2, z3].toArray c3) ∈ news)
    (h : ∀ n h', Fr h₀ L h' m → News h₀ L h' news → Zs n l1 l2 l3 #[x0, x1, x2, x3] #[v0, v1, v2, v3] #[z0, z1, z2, z3] 0 .none (.bool false) .none .none .none h' → h'.objs.size = n + 6 → @LT.lt Nat _ L n → (∀ q ∈ news, @LT.lt Nat _ q.1 n) → Q (.ref (n + 5)) { s with heap := h' }) :
    wpAny (model prog w) A (call (.type "zip") [.ref l1, .ref l2, .ref l3]) Q E s := by
  have hl1 := News.isList N m1
  have hl2 := News.isList N m2
  have hl3 := News.isList N m3
  refine call_zip3 hl1 hl2 hl3 ?_
  have up : ∀ q o, s.heap.get? q = some o → (y6 s.heap l1 l2 l3).get? q = some o := fun q o e =>
    Heap.get?_push_of_some _ (Heap.get?_push_of_some _ (Heap.get?_push_of_some _ (Heap.get?_push_of_some _ (Heap.get?_push_of_some _ (Heap.get?_push_of_some _ e)))))
  have z1 : (y1 s.heap l1).objs.size = s.heap.objs.size + 1 := Heap.size_push ..
  have z2 : (y2 s.heap l1 l2).objs.size = s.heap.objs.size + 2 := by rw [Heap.size_push, z1]
  have z3 : (y3 s.heap l1 l2 l3).objs.size = s.heap.objs.size + 3 := by rw [Heap.size_push, z2]
  have z4 : (y4 s.heap l1 l2 l3).objs.size = s.heap.objs.size + 4 := by rw [Heap.size_push, z3]
  have z5 : (y5 s.heap l1 l2 l3).objs.size = s.heap.objs.size + 5 := by rw [Heap.size_push, z4]
  have z6 : (y6 s.heap l1 l2 l3).objs.size = s.heap.objs.size + 6 := by rw [Heap.size_push, z5]
  have g6 : (y6 s.heap l1 l2 l3).get? (y5 s.heap l1 l2 l3).objs.size = some _ := Heap.get?_push_size _ rfl
  have g5 : (y6 s.heap l1 l2 l3).get? (y4 s.heap l1 l2 l3).objs.size = some _ := Heap.get?_push_of_some _ (Heap.get?_push_size _ rfl)
  have g4 : (y6 s.heap l1 l2 l3).get? (y3 s.heap l1 l2 l3).objs.size = some _ := Heap.get?_push_of_some _ (Heap.get?_push_of_some _ (Heap.get?_push_size _ rfl))
  have g3 : (y6 s.heap l1 l2 l3).get? (y2 s.heap l1 l2).objs.size = some _ := Heap.get?_push_of_some _ (Heap.get?_push_of_some _ (Heap.get?_push_of_some _ (Heap.get?_push_size _ rfl)))
  have g2 : (y6 s.heap l1 l2 l3).get? (y1 s.heap l1).objs.size = some _ := Heap.get?_push_of_some _ (Heap.get?_push_of_some _ (Heap.get?_push_of_some _ (Heap.get?_push_of_some _ (Heap.get?_push_size _ rfl))))
  have g1 : (y6 s.heap l1 l2 l3).get? s.heap.objs.size = some _ := Heap.get?_push_of_some _ (Heap.get?_push_of_some _ (Heap.get?_push_of_some _ (Heap.get?_push_of_some _ (Heap.get?_push_of_some _ (Heap.get?_push_size _ rfl)))))
  rw [z5, z3, z4] at g6
  rw [z4] at g5
  rw [z3, z1, z2] at g4
  rw [z2] at g3
  rw [z1] at g2
  refine h s.heap.objs.size _ (F.keeps up) (N.grown up) ⟨g6, g4, g5, ⟨_, g1, rfl, rfl⟩, ⟨_, g2, rfl, rfl⟩, ⟨_, g3, rfl, rfl⟩, hl1.at fun o e => up _ o e, hl2.at fun o e => up _ o e, hl3.at fun o e => up _ o e, Heap.lt_size (N _ m1).1, Heap.lt_size (N _ m2).1, Heap.lt_size (N _ m3).1⟩ z6 F.ns.lt fun q hq => Heap.lt_size (N q hq).1
theorem listZK {n : Nat} {l1 l2 l3 : Addr} {x0 x1 x2 x3 y0 y1 y2 y3 z0 z1 z2 z3 : Value} {Q : Value → Shared → Prop} (hh : A.handled = none) (Fh : Fr h₀ L s.heap m) (N : News h₀ L s.heap news)
    (Z : Zs n l1 l2 l3 #[x0, x1, x2, x3] #[y0, y1, y2, y3] #[z0, z1, z2, z3] 0 .none (.bool false) .none .none .none s.heap) (hsz : s.heap.objs.size = n + 6) (hL : @LT.lt Nat _ L n) (hN : ∀ q ∈ news, @LT.lt Nat _ q.1 n)
    (h : ∀ D T0 T1 T2 T3 c h', Fr h₀ L h' m → News h₀ L h' ((D, W.listOf [Value.ref T0, .ref T1, .ref T2, .ref T3].toArray c) :: (T0, tupOb #[x0, y0, z0]) :: (T1, tupOb #[x1, y1, z1]) :: (T2, tupOb #[x2, y2, z2]) :: (T3, tupOb #[x3, y3, z3]) :: news) →
      (∀ q ∈ news, @LT.lt Nat _ q.1 D) → @LT.lt Nat _ D T0 → @LT.lt Nat _ T0 T1 → @LT.lt Nat _ T1 T2 → @LT.lt Nat _ T2 T3 → Q (.ref D) { s with heap := h' }) :
    wpAny (model prog w) A (call (.type "list") [.ref (n + 5)]) Q E s := by
  have ne : ∀ {p q : Nat}, p ≠ q → @Ne Addr p q := fun h => h
  refine callType_codes (Q₁ := fun obj s₁ => obj = .ref s.heap.objs.size ∧ s₁ = { s with heap := s.heap.push { cls := .type "list", data := .seq #[] } }) F.called_list (F.typeCall_list_1 _) F.entry_list_init
    (code_list_new _ ⟨rfl, rfl⟩) fun obj s₁ h₁ => ?_
  obtain ⟨rfl, rfl⟩ := h₁
  have hS : (s.heap.push { cls := .type "list", data := .seq #[] }).get? s.heap.objs.size = some { cls := .type "list", data := .seq #[] } := Heap.get?_push_size _ rfl
  refine ⟨⟨_, hS, rfl⟩, F.args_list_init_2 _ _, ?_⟩
  have sz1 : (s.heap.push { cls := .type "list", data := .seq #[] }).objs.size = n + 7 := by rw [Heap.size_push, hsz]
  have up1 : ∀ q o, s.heap.get? q = some o → (s.heap.push { cls := .type "list", data := .seq #[] }).get? q = some o := fun q o e => Heap.get?_push_of_some _ e
  have Z1 := Z.keep (h' := s.heap.push { cls := .type "list", data := .seq #[] }) fun q o _ e => up1 q o e
  rw [hsz] at hS ⊢
  show wpAny _ _ (do let old ← Builtin.List.listItems (.ref (n + 6)); Builtin.List.listUpdate (.ref (n + 6)) (fun _ => #[]); letGo old.toList.reverse; Builtin.List.listExtendWith (.ref (n + 6)) (.ref (n + 5)) .none) _ _ _
  refine wpAny_bind ?_
  unfold Builtin.List.listItems
  refine wpAny_bind (wpAny_seqItems hS rfl (wpAny_pure ?_))
  show wpAny _ _ (updateSeq (n + 6) (fun _ => #[]) >>= fun _ => letGo (#[] : Array Value).toList.reverse >>= fun _ => Builtin.List.listExtendWith (.ref (n + 6)) (.ref (n + 5)) .none) _ _ _
  refine wpAny_bind (wpAny_updateSeq hS rfl ?_)
  have hS2 := Heap.get?_update_self (Obj.mapSeq (fun _ => (#[] : Array Value))) hS rfl
  have B2 : Heap.SameBut (n + 6) (s.heap.push { cls := .type "list", data := .seq #[] }) ((s.heap.push { cls := .type "list", data := .seq #[] }).update (n + 6) (Obj.mapSeq (fun _ => (#[] : Array Value)))) := Heap.SameBut.update ..
  have Z2 := Z1.keep fun q o hq e => (B2.2 _ (ne (Nat.ne_of_lt hq))).trans e
  have sz2 := B2.1.trans sz1
  generalize hH2 : (s.heap.push { cls := .type "list", data := .seq #[] }).update (n + 6) (Obj.mapSeq (fun _ => (#[] : Array Value))) = H2 at hS2 B2 Z2 sz2
  refine wpAny_bind (wpAny_letGo ?_)
  unfold Builtin.List.listExtendWith
  refine wpAny_bind (wpAny_typeOf (z_type Z2) ?_)
  have h1 : Builtin.List.listSameRef (.ref (n + 6)) (.ref (n + 5)) = false := by simp [Builtin.List.listSameRef]
  have h2 : (Value.type "zip" == Value.type "list") = false := by decide
  have h3 : (Value.type "zip" == Value.type "tuple") = false := by decide
  simp only [h1, h2, h3, Bool.or_false, Bool.false_eq_true, if_false]
  refine wpAny_bind (wpAny_pyIter_slot (z_type Z2) F.slot_zip_iter (wpAny_call_entry F.slot_zip_iter (z_type Z2) F.entry_zip_iter ?_ (F.args_zip_iter_1 _)))
  show wpAny _ _ (ret (.ref (n + 5))) _ _ _
  refine wpAny_pure ⟨_, rfl, "zip", _, z_type Z2, F.slot_zip_next.lookup, ?_⟩
  refine wpAny_bind (wpAny_holding ?_)
  unfold Builtin.List.listLengthHint
  refine wpAny_bind (wpAny_specialOf (z_type Z2) zip_no_len ?_)
  show wpAny _ _ (specialOf (Value.ref (n + 5)) (Str.ofString "__length_hint__") >>= _) _ _ _
  refine wpAny_bind (wpAny_specialOf (z_type Z2) zip_no_hint ?_)
  refine wpAny_pure ?_
  show wpAny _ _ (rule "list.extend.makes-room" >>= fun _ => Builtin.List.listTouch (.ref (n + 6)) >>= fun _ =>
    again (.builtin "list.extend.loop" ⟨[.ref (n + 6), .ref (n + 5), .none], []⟩)) _ _ _
  refine wpAny_bind (wpAny_rule ?_)
  refine wpAny_bind ?_
  show wpAny _ _ (updateSeq (n + 6) (·.push .none) >>= fun _ => updateSeq (n + 6) (·.pop)) _ _ _
  refine wpAny_bind (wpAny_updateSeq hS2 rfl ?_)
  have hS3 := Heap.get?_update_self (Obj.mapSeq (·.push Value.none)) hS2 rfl
  refine wpAny_updateSeq (hz := by seq_fits) hS3 rfl ?_
  have hS4 := Heap.get?_update_self (Obj.mapSeq (·.pop)) hS3 rfl
  have B4 : Heap.SameBut (n + 6) H2 ((H2.update (n + 6) (Obj.mapSeq (·.push Value.none))).update (n + 6) (Obj.mapSeq (·.pop))) :=
    ⟨(Heap.SameBut.update ..).1.trans (Heap.SameBut.update ..).1, fun b hb => ((Heap.SameBut.update ..).2 b hb).trans ((Heap.SameBut.update ..).2 b hb)⟩
  have Z4 := Z2.keep fun q o hq e => (B4.2 _ (ne (Nat.ne_of_lt hq))).trans e
  have sz4 := B4.1.trans sz2
  refine wpAny_pure ⟨plainId_quiet F.plain_extend_loop _, ext_zip hh Z4 sz4 hS4 fun h' c' k hD t0 t1 t2 t3 => ⟨rfl, ?_⟩⟩
  have old : ∀ q o, @LT.lt Nat _ q n → s.heap.get? q = some o → h'.get? q = some o := fun q o hq e => by
    have hq' : (q : Nat) < n := hq
    exact k q o hq ((B4.2 _ (ne (by lia))).trans ((B2.2 _ (ne (by lia))).trans (up1 _ _ e)))
  have fresh : ∀ q : Nat, n ≤ q → q ≠ L ∧ h₀.get? q = none := fun q hq => ⟨Nat.ne_of_gt (Nat.lt_of_lt_of_le hL hq), Heap.get?_none_of_le (Nat.le_trans Fh.above (Nat.le_trans (Nat.le_of_lt hL) hq))⟩
  refine h (n + 6) (n + 7) (n + 8) (n + 9) (n + 10) c' h' ⟨Fh.ns.at' fun o e => old _ _ hL e, fun b o e => old _ _ (Nat.lt_of_lt_of_le (Heap.lt_size e) (Nat.le_trans Fh.above (Nat.le_of_lt hL))) (Fh.keep b o e), Fh.above⟩ ?_ (fun q hq => Nat.lt_of_lt_of_le (hN q hq) (Nat.le_add_right _ _)) (Nat.lt_succ_self _) (Nat.lt_succ_self _) (Nat.lt_succ_self _) (Nat.lt_succ_self _)
  intro q hq
  rcases List.mem_cons.mp hq with rfl | hq
  · exact ⟨hD, fresh _ (by lia)⟩
  rcases List.mem_cons.mp hq with rfl | hq
  · exact ⟨t0, fresh _ (by lia)⟩
  rcases List.mem_cons.mp hq with rfl | hq
  · exact ⟨t1, fresh _ (by lia)⟩
  rcases List.mem_cons.mp hq with rfl | hq
  · exact ⟨t2, fresh _ (by lia)⟩
  rcases List.mem_cons.mp hq with rfl | hq
  · exact ⟨t3, fresh _ (by lia)⟩
  · exact ⟨old _ _ (hN q hq) (N q hq).1, (N q hq).2⟩
end
end Mine
end
section
open PySem PySem.W PyProof.Rows PySem.Calls
set_option maxRecDepth 100000
set_option maxHeartbeats 0
set_option linter.unusedVariables false
namespace Mine
local macro_rules | `(tactic| k_mem) => `(tactic| ((repeat (first | with_reducible assumption | with_reducible exact List.mem_cons_self .. | apply List.mem_cons_of_mem)); done))
theorem names_ok : namesOk viewQ (looseW viewQ looseQ) (namesW viewQ looseQ) = true := by
  rw [PySem.W.Fast.te17448422675489707002, PySem.W.Fast.te821141287760084731]
  kernel_rfl
theorem imports_ok : importsNone viewQ = true := by
  rw [PySem.W.Fast.te2458874890965802552]
  kernel_rfl
theorem defSplit {a d : DefRec} {b k : List (Str × Expr)} {P : DefRec → List (Str × Expr) → Prop} (e : some (a, b) = some (d, k)) (h : P a b) : P d k := by
  cases e
  exact h
theorem law_walk (hL : ∀ l, Bd l → LampOk l) (hD : ∀ (P : Params) (n : Int), 0 ≤ n → n < 1000000 → DealOk P n) : ∀ (d : DefRec) (kwd : List (Str × Expr)), defOf viewQ lawRow.name = some (d, kwd) → WalkO viewQ looseQ (XL viewQ []) (Hook.says (kHook heapK heapA keysK)) (OpenRow.toRowW lawRow) d kwd fun f vs => PySem.call f vs := by
  intro d kwd e
  with_unfolding_all refine defSplit (P := fun d kwd => WalkO viewQ looseQ (XL viewQ []) (Hook.says (kHook heapK heapA keysK)) (OpenRow.toRowW lawRow) d kwd fun f vs => PySem.call f vs) e ?_
  clear e d kwd
  w_strict (
    k_fill
    intro w s₀ s₁ mg mb G Y fa o pm cd doc dV kV ho hd hcd hD0 hmg hg args vals as hpre hlay hrd hwl hlo
    have KX := kIn_of Y
    have X := (Ground.X G).1
    have V := (Ground.X G).2
    have GL := glob_more (Ground.glob G names_ok imports_ok) V
    refine Ground.open G ?_
    intro T B D TE TW
    try (refine guard_noD D (by decide +kernel) ?_; clear D)
    obtain ⟨_, _, M⟩ := bmod_of_top T
    have TA := at_of_top T
    try (obtain ⟨_, _, he, B0⟩ := based_of_top T rfl hmg ho hd; have he' : cd = _ := he; subst he'; clear he)
    clear hmg
    wrow_args hpre hlay hrd hwl hlo
    all_goals (first | refine callC_kw (enter_call ?_) | refine enter_call ?_ | refine callC_kw (enter_callW ?_) | refine enter_callW ?_ | w_how)
    all_goals w_top on
    have K0 := below_caller (Top.heap T)
    w_call any ho hd hcd hD0 T F
    clear hd TA
    k_drop
    (all_goals try k_fold)
    refine opaqH (fun Q' hQ' => ?_)
    rename IntsAre _ _ => hI
    rename (¬ _ < _) => h63
    (repeat' (first | (k_unfold; (try dsimp only)) | ((with_reducible show wpAny _ _ (execs (_ :: _) _) _ _ _); (try k_gentoks); refine execsO ?_; intro _ _) | ((with_reducible show wpAny _ _ (call (Value.ref _) _ _) _ _ _); with_reducible ((refine Stop.mk ?_))) | walk1 | (dsimp only; walk1) | (leave1; walk_say "STEP leave1"; (try dsimp only)) | (refine Nx.nx (by with_reducible assumption) ?_) | (refine Nx.rt (by with_reducible assumption) ?_) | fail "no step"))
    unfold Stop
    rename News _ _ _ _ => N99
    rename Fr _ _ _ _ => F99
    k_dflt (refine' f_draws _ _ _ _ _ _ _ _ _ _ ?pI ?pL _ _ _ _ _ _ _ _ _ _ _ _ _ _ _ _ _ ?qH ?qB ?qF ?qX ?qN ?qT ?qK ?qD ?qU ?_)
    case pI => exact hI
    case pL => lia
    case qH => assumption
    case qB => first | assumption | k_asm
    case qF => exact F99
    case qX => assumption
    case qN => exact News.less N99 (List.forall_mem_singleton.mpr (by k_mem))
    case qT => assumption
    case qK => first | (k_dflt (exact rfl)) | assumption
    case qD => first | decide | ktr_room
    case qU => first | decide | ktr_units
    refine drawsBack N99 (List.forall_mem_singleton.mpr (by k_mem)) (fun D0 d0 d1 d2 d3 d4 t0 t1 t2 t3 t4 h0 tk0 b0 b1 b2 b3 b4 F0 N0 => ?_)
    clear F99 N99
    (try dsimp only)
    rename World => ww
    obtain ⟨R0, R1, R2, R3, hRl, hRm, hRo, hR0, hR6⟩ := lev4 d0
    obtain ⟨G0, G1, G2, G3, hGl, hGm, hGo, hG0, hG6⟩ := lev4 d1
    obtain ⟨B0, B1, B2, B3, hBl, hBm, hBo, hB0, hB6⟩ := lev4 d2
    obtain ⟨fn1, g1, ix1, hf1, hs1, hz1, he1, hp1⟩ := hD ww.params d3 b3.1 b3.2
    obtain ⟨fn2, g2, ix2, hf2, hs2, hz2, he2, hp2⟩ := hD ww.params d4 b4.1 b4.2
    obtain ⟨gr0, gr1, gr2, gr3, hgx, hgp⟩ := dealt4 (a := G0) (b := G1) (c := G2) (d := G3) hp1
    obtain ⟨bl0, bl1, bl2, bl3, hbx, hbp⟩ := dealt4 (a := B0) (b := B1) (c := B2) (d := B3) hp2
    (repeat' (first | (k_unfold; (try dsimp only)) | ((with_reducible show wpAny _ _ (execs (_ :: _) _) _ _ _); (try k_gentoks); refine execsO ?_; intro _ _) | ((with_reducible show wpAny _ _ (call (Value.ref _) _ _) _ _ _); with_reducible ((refine Stop.mk ?_))) | walk1 | (dsimp only; walk1) | (leave1; walk_say "STEP leave1"; (try dsimp only)) | (refine Nx.nx (by with_reducible assumption) ?_) | (refine Nx.rt (by with_reducible assumption) ?_) | fail "no step"))
    unfold Stop
    rename News _ _ _ _ => N99
    rename Fr _ _ _ _ => F99
    k_dflt (refine' f_marks _ _ _ ?p1 ?p2 _ _ _ _ _ _ _ _ _ _ _ _ _ _ _ _ _ ?qB ?qF ?qX ?qN ?qT ?qK ?qD ?qU ?_)
    case p1 => exact b1.1
    case p2 => exact b1.2
    case qB => first | assumption | k_asm
    case qF => exact F99
    case qX => assumption
    case qN => exact News.nil
    case qT => assumption
    case qK => first | (k_dflt (exact rfl)) | assumption
    case qD => first | decide | ktr_room
    case qU => first | decide | ktr_units
    refine fourBackG hGm N99 (List.forall_mem_nil _) (fun M1 ta1 tb1 tc1 td1 zm1 hm1 tkm1 Gs1 bG1 Fm1 Nm1 => ?_)
    clear F99 N99
    (try dsimp only)
    (repeat' (first | (k_unfold; (try dsimp only)) | ((with_reducible show wpAny _ _ (execs (_ :: _) _) _ _ _); (try k_gentoks); refine execsO ?_; intro _ _) | ((with_reducible show wpAny _ _ (call (Value.ref _) _ _) _ _ _); with_reducible ((refine Stop.mk ?_))) | walk1 | (dsimp only; walk1) | (leave1; walk_say "STEP leave1"; (try dsimp only)) | (refine Nx.nx (by with_reducible assumption) ?_) | (refine Nx.rt (by with_reducible assumption) ?_) | fail "no step"))
    unfold Stop
    rename News _ _ _ _ => N99
    rename Fr _ _ _ _ => F99
    k_dflt (refine' f_dealt _ _ _ [.int G0 ta1, .int G1 tb1, .int G2 tc1, .int G3 td1] [G0, G1, G2, G3] _ _ fn1 g1 ?pl hf1 hs1 (deal_lt he1 hp1) hz1 (by show 4 ≤ 8; decide) _ _ _ _ _ _ _ _ _ _ _ _ _ _ _ _ _ ?qB ?qF ?qX ?qN ?qT ?qK ?qD ?qU ?_)
    case pl => exact .cons _ _ (.cons _ _ (.cons _ _ (.cons _ _ .nil)))
    case qB => first | assumption | k_asm
    case qF => exact F99
    case qX => assumption
    case qN => exact News.less N99 (List.forall_mem_singleton.mpr (by k_mem))
    case qT => assumption
    case qK => first | (k_dflt (exact rfl)) | assumption
    case qD => first | decide | ktr_room
    case qU => first | decide | ktr_units
    refine fourBack ((deal_get _ he1).trans hgx) N99 (List.forall_mem_singleton.mpr (by k_mem)) (fun E1 ua1 ub1 uc1 ud1 hd1 tkd1 Fd1 Nd1 => ?_)
    clear F99 N99
    (try dsimp only)
    (repeat' (first | (k_unfold; (try dsimp only)) | ((with_reducible show wpAny _ _ (execs (_ :: _) _) _ _ _); (try k_gentoks); refine execsO ?_; intro _ _) | ((with_reducible show wpAny _ _ (call (Value.ref _) _ _) _ _ _); with_reducible ((refine Stop.mk ?_))) | walk1 | (dsimp only; walk1) | (leave1; walk_say "STEP leave1"; (try dsimp only)) | (refine Nx.nx (by with_reducible assumption) ?_) | (refine Nx.rt (by with_reducible assumption) ?_) | fail "no step"))
    unfold Stop
    rename News _ _ _ _ => N99
    rename Fr _ _ _ _ => F99
    k_dflt (refine' f_marks _ _ _ ?p1 ?p2 _ _ _ _ _ _ _ _ _ _ _ _ _ _ _ _ _ ?qB ?qF ?qX ?qN ?qT ?qK ?qD ?qU ?_)
    case p1 => exact b2.1
    case p2 => exact b2.2
    case qB => first | assumption | k_asm
    case qF => exact F99
    case qX => assumption
    case qN => exact News.nil
    case qT => assumption
    case qK => first | (k_dflt (exact rfl)) | assumption
    case qD => first | decide | ktr_room
    case qU => first | decide | ktr_units
    refine fourBackG hBm N99 (List.forall_mem_nil _) (fun M2 ta2 tb2 tc2 td2 zm2 hm2 tkm2 Gs2 bG2 Fm2 Nm2 => ?_)
    clear F99 N99
    (try dsimp only)
    (repeat' (first | (k_unfold; (try dsimp only)) | ((with_reducible show wpAny _ _ (execs (_ :: _) _) _ _ _); (try k_gentoks); refine execsO ?_; intro _ _) | ((with_reducible show wpAny _ _ (call (Value.ref _) _ _) _ _ _); with_reducible ((refine Stop.mk ?_))) | walk1 | (dsimp only; walk1) | (leave1; walk_say "STEP leave1"; (try dsimp only)) | (refine Nx.nx (by with_reducible assumption) ?_) | (refine Nx.rt (by with_reducible assumption) ?_) | fail "no step"))
    unfold Stop
    rename News _ _ _ _ => N99
    rename Fr _ _ _ _ => F99
    k_dflt (refine' f_dealt _ _ _ [.int B0 ta2, .int B1 tb2, .int B2 tc2, .int B3 td2] [B0, B1, B2, B3] _ _ fn2 g2 ?pl hf2 hs2 (deal_lt he2 hp2) hz2 (by show 4 ≤ 8; decide) _ _ _ _ _ _ _ _ _ _ _ _ _ _ _ _ _ ?qB ?qF ?qX ?qN ?qT ?qK ?qD ?qU ?_)
    case pl => exact .cons _ _ (.cons _ _ (.cons _ _ (.cons _ _ .nil)))
    case qB => first | assumption | k_asm
    case qF => exact F99
    case qX => assumption
    case qN => exact News.less N99 (List.forall_mem_singleton.mpr (by k_mem))
    case qT => assumption
    case qK => first | (k_dflt (exact rfl)) | assumption
    case qD => first | decide | ktr_room
    case qU => first | decide | ktr_units
    refine fourBack ((deal_get _ he2).trans hbx) N99 (List.forall_mem_singleton.mpr (by k_mem)) (fun E2 ua2 ub2 uc2 ud2 hd2 tkd2 Fd2 Nd2 => ?_)
    clear F99 N99
    (try dsimp only)
    (repeat' (first | (k_unfold; (try dsimp only)) | ((with_reducible show wpAny _ _ (execs (_ :: _) _) _ _ _); (try k_gentoks); refine execsO ?_; intro _ _) | ((with_reducible show wpAny _ _ (call (Value.ref _) _ _) _ _ _); with_reducible ((refine Stop.mk ?_))) | walk1 | (dsimp only; walk1) | (leave1; walk_say "STEP leave1"; (try dsimp only)) | (refine Nx.nx (by with_reducible assumption) ?_) | (refine Nx.rt (by with_reducible assumption) ?_) | fail "no step"))
    unfold Stop
    rename News _ _ _ _ => N99
    rename Fr _ _ _ _ => F99
    k_dflt (refine' f_levels _ _ _ ?p1 ?p2 _ _ _ _ _ _ _ _ _ _ _ _ _ _ _ _ _ ?qB ?qF ?qX ?qN ?qT ?qK ?qD ?qU ?_)
    case p1 => exact b0.1
    case p2 => exact b0.2
    case qB => first | assumption | k_asm
    case qF => exact F99
    case qX => assumption
    case qN => exact News.nil
    case qT => assumption
    case qK => first | (k_dflt (exact rfl)) | assumption
    case qD => first | decide | ktr_room
    case qU => first | decide | ktr_units
    refine fourBack hRl N99 (List.forall_mem_nil _) (fun V0 va0 vb0 vc0 vd0 hv0 tkv0 Fv0 Nv0 => ?_)
    clear F99 N99
    (try dsimp only)
    (repeat' (first | (k_unfold; (try dsimp only)) | ((with_reducible show wpAny _ _ (execs (_ :: _) _) _ _ _); (try k_gentoks); refine execsO ?_; intro _ _) | ((with_reducible show wpAny _ _ (call (Value.ref _) _ _) _ _ _); with_reducible ((refine Stop.mk ?_))) | walk1 | (dsimp only; walk1) | (leave1; walk_say "STEP leave1"; (try dsimp only)) | (refine Nx.nx (by with_reducible assumption) ?_) | (refine Nx.rt (by with_reducible assumption) ?_) | fail "no step"))
    unfold Stop
    rename News _ _ _ _ => N99
    rename Fr _ _ _ _ => F99
    k_dflt (refine' f_levels _ _ _ ?p1 ?p2 _ _ _ _ _ _ _ _ _ _ _ _ _ _ _ _ _ ?qB ?qF ?qX ?qN ?qT ?qK ?qD ?qU ?_)
    case p1 => exact b1.1
    case p2 => exact b1.2
    case qB => first | assumption | k_asm
    case qF => exact F99
    case qX => assumption
    case qN => exact News.nil
    case qT => assumption
    case qK => first | (k_dflt (exact rfl)) | assumption
    case qD => first | decide | ktr_room
    case qU => first | decide | ktr_units
    refine fourBack hGl N99 (List.forall_mem_nil _) (fun V1 va1 vb1 vc1 vd1 hv1 tkv1 Fv1 Nv1 => ?_)
    clear F99 N99
    (try dsimp only)
    (repeat' (first | (k_unfold; (try dsimp only)) | ((with_reducible show wpAny _ _ (execs (_ :: _) _) _ _ _); (try k_gentoks); refine execsO ?_; intro _ _) | ((with_reducible show wpAny _ _ (call (Value.ref _) _ _) _ _ _); with_reducible ((refine Stop.mk ?_))) | walk1 | (dsimp only; walk1) | (leave1; walk_say "STEP leave1"; (try dsimp only)) | (refine Nx.nx (by with_reducible assumption) ?_) | (refine Nx.rt (by with_reducible assumption) ?_) | fail "no step"))
    unfold Stop
    rename News _ _ _ _ => N99
    rename Fr _ _ _ _ => F99
    k_dflt (refine' f_levels _ _ _ ?p1 ?p2 _ _ _ _ _ _ _ _ _ _ _ _ _ _ _ _ _ ?qB ?qF ?qX ?qN ?qT ?qK ?qD ?qU ?_)
    case p1 => exact b2.1
    case p2 => exact b2.2
    case qB => first | assumption | k_asm
    case qF => exact F99
    case qX => assumption
    case qN => exact News.nil
    case qT => assumption
    case qK => first | (k_dflt (exact rfl)) | assumption
    case qD => first | decide | ktr_room
    case qU => first | decide | ktr_units
    refine fourBack hBl N99 (List.forall_mem_nil _) (fun V2 va2 vb2 vc2 vd2 hv2 tkv2 Fv2 Nv2 => ?_)
    clear F99 N99
    (try dsimp only)
    (repeat' (first | (k_unfold; (try dsimp only)) | ((with_reducible show wpAny _ _ (execs (_ :: _) _) _ _ _); (try k_gentoks); refine execsO ?_; intro _ _) | ((with_reducible show wpAny _ _ (call (Value.type "zip") _ _) _ _ _); with_reducible ((refine Stop.mk ?_))) | walk1 | (dsimp only; walk1) | (leave1; walk_say "STEP leave1"; (try dsimp only)) | (refine Nx.nx (by with_reducible assumption) ?_) | (refine Nx.rt (by with_reducible assumption) ?_) | fail "no step"))
    unfold Stop
    rename News _ _ _ _ => N99
    rename Fr _ _ _ _ => F99
    refine zipK F99 N99 (by k_mem) (by k_mem) (by k_mem) ?_
    clear F99 N99
    intro nz0 hzz0 Fz Nz Zz szz Lz ltz
    (repeat' (first | (k_unfold; (try dsimp only)) | ((with_reducible show wpAny _ _ (execs (_ :: _) _) _ _ _); (try k_gentoks); refine execsO ?_; intro _ _) | ((with_reducible show wpAny _ _ (call (Value.type "list") _ _) _ _ _); with_reducible ((refine Stop.mk ?_))) | walk1 | (dsimp only; walk1) | (leave1; walk_say "STEP leave1"; (try dsimp only)) | (refine Nx.nx (by with_reducible assumption) ?_) | (refine Nx.rt (by with_reducible assumption) ?_) | fail "no step"))
    unfold Stop
    rename News _ _ _ _ => N99
    rename Fr _ _ _ _ => F99
    refine listZK (by with_unfolding_all rfl) F99 N99 Zz szz Lz ltz ?_
    clear F99 N99 Zz szz Lz ltz
    intro Dz0 Ta0 Tb0 Tc0 Td0 cz0 hl0 Fl Nl ltD o1 o2 o3 o4
    clear ltD o1 o2 o3 o4
    (repeat' (first | (k_unfold; (try dsimp only)) | ((with_reducible show wpAny _ _ (execs (_ :: _) _) _ _ _); (try k_gentoks); refine execsO ?_; intro _ _) | ((with_reducible show wpAny _ _ (call (Value.ref _) _ _) _ _ _); with_reducible ((refine Stop.mk ?_))) | walk1 | (dsimp only; walk1) | (leave1; walk_say "STEP leave1"; (try dsimp only)) | (refine Nx.nx (by with_reducible assumption) ?_) | (refine Nx.rt (by with_reducible assumption) ?_) | fail "no step"))
    unfold Stop
    rename News _ _ _ _ => N99
    rename Fr _ _ _ _ => F99
    k_dflt (refine' f_marks _ _ _ ?p1 ?p2 _ _ _ _ _ _ _ _ _ _ _ _ _ _ _ _ _ ?qB ?qF ?qX ?qN ?qT ?qK ?qD ?qU ?_)
    case p1 => exact b0.1
    case p2 => exact b0.2
    case qB => first | assumption | k_asm
    case qF => exact F99
    case qX => assumption
    case qN => exact News.nil
    case qT => assumption
    case qK => first | (k_dflt (exact rfl)) | assumption
    case qD => first | decide | ktr_room
    case qU => first | decide | ktr_units
    refine fourBackG hRm N99 (List.forall_mem_nil _) (fun M0 ta0 tb0 tc0 td0 zm0 hm0 tkm0 Gs0 bG0 Fm0 Nm0 => ?_)
    clear F99 N99
    (try dsimp only)
    (repeat' (first | (k_unfold; (try dsimp only)) | ((with_reducible show wpAny _ _ (execs (_ :: _) _) _ _ _); (try k_gentoks); refine execsO ?_; intro _ _) | ((with_reducible show wpAny _ _ (call (Value.type "zip") _ _) _ _ _); with_reducible ((refine Stop.mk ?_))) | walk1 | (dsimp only; walk1) | (leave1; walk_say "STEP leave1"; (try dsimp only)) | (refine Nx.nx (by with_reducible assumption) ?_) | (refine Nx.rt (by with_reducible assumption) ?_) | fail "no step"))
    unfold Stop
    rename News _ _ _ _ => N99
    rename Fr _ _ _ _ => F99
    refine zipK F99 N99 (by k_mem) (by k_mem) (by k_mem) ?_
    clear F99 N99
    intro nz1 hzz1 Fz Nz Zz szz Lz ltz
    (repeat' (first | (k_unfold; (try dsimp only)) | ((with_reducible show wpAny _ _ (execs (_ :: _) _) _ _ _); (try k_gentoks); refine execsO ?_; intro _ _) | ((with_reducible show wpAny _ _ (call (Value.type "list") _ _) _ _ _); with_reducible ((refine Stop.mk ?_))) | walk1 | (dsimp only; walk1) | (leave1; walk_say "STEP leave1"; (try dsimp only)) | (refine Nx.nx (by with_reducible assumption) ?_) | (refine Nx.rt (by with_reducible assumption) ?_) | fail "no step"))
    unfold Stop
    rename News _ _ _ _ => N99
    rename Fr _ _ _ _ => F99
    refine listZK (by with_unfolding_all rfl) F99 N99 Zz szz Lz ltz ?_
    clear F99 N99 Zz szz Lz ltz
    intro Dz1 Ta1 Tb1 Tc1 Td1 cz1 hl1 Fl Nl ltD o1 o2 o3 o4
    clear ltD o1 o2 o3 o4
    (repeat' (first | (k_unfold; (try dsimp only)) | ((with_reducible show wpAny _ _ (execs (_ :: _) _) _ _ _); (try k_gentoks); refine execsO ?_; intro _ _) | ((with_reducible show wpAny _ _ (call (Value.ref _) _ _) _ _ _); with_reducible ((refine Stop.mk ?_))) | walk1 | (dsimp only; walk1) | (leave1; walk_say "STEP leave1"; (try dsimp only)) | (refine Nx.nx (by with_reducible assumption) ?_) | (refine Nx.rt (by with_reducible assumption) ?_) | fail "no step"))
    have kr := perm_bd (List.Perm.refl [R0, R1, R2, R3]) hRo hR0 hR6
    have kg := perm_bd hgp hGo hG0 hG6
    have kb := perm_bd hbp hBo hB0 hB6
    unfold Stop
    rename News _ _ _ _ => N99
    rename Fr _ _ _ _ => F99
    k_dflt (refine' f_untangled _ _ _ ?pa ?pc ⟨Ta1, R0, gr0, bl0, ta0, ua1, ua2⟩ ⟨Tb1, R1, gr1, bl1, tb0, ub1, ub2⟩ ⟨Tc1, R2, gr2, bl2, tc0, uc1, uc2⟩ ⟨Td1, R3, gr3, bl3, td0, ud1, ud2⟩ ⟨Ta0, R0, G0, B0, va0, va1, va2⟩ ⟨Tb0, R1, G1, B1, vb0, vb1, vb2⟩ ⟨Tc0, R2, G2, B2, vc0, vc1, vc2⟩ ⟨Td0, R3, G3, B3, vd0, vd1, vd2⟩ hL (bd4 kr kg kb) (net_all (List.Perm.refl _) hgp hbp hRo hGo hBo) ⟨hRo, hGo, hBo⟩ ?led ?mP ?mC ?mp ?mc _ _ _ _ _ _ _ _ _ _ _ _ _ _ _ _ _ ?qB ?qF ?qX ?qN ?qT ?qK ?qD ?qU ?_)
    case qN => exact N99
    case mP => k_mem
    case mC => k_mem
    case mp => exact lam4 (lamI (by k_mem)) (lamI (by k_mem)) (lamI (by k_mem)) (lamI (by k_mem))
    case mc => exact lam4 (lamI (by k_mem)) (lamI (by k_mem)) (lamI (by k_mem)) (lamI (by k_mem))
    case qB => first | assumption | k_asm
    case qF => exact F99
    case qX => assumption
    case qT => assumption
    case qK => first | (k_dflt (exact rfl)) | assumption
    case qD => first | decide | ktr_room
    case qU => first | decide | ktr_units
    clear N99
    refine trueBack2 (fun h9 tk9 F9 => ?_)
    clear F99
    (try dsimp only)
    (repeat' (first | (k_unfold; (try dsimp only)) | ((with_reducible show wpAny _ _ (execs (_ :: _) _) _ _ _); (try k_gentoks); refine execsO ?_; intro _ _) | walk1 | (dsimp only; walk1) | (leave1; walk_say "STEP leave1"; (try dsimp only)) | (refine Nx.nx (by with_reducible assumption) ?_) | (refine Nx.rt (by with_reducible assumption) ?_) | fail "no step"))
    refine hQ' _ _ ?_
    (try dsimp only)
    (repeat' (first | (k_unfold; (try dsimp only)) | ((with_reducible show wpAny _ _ (execs (_ :: _) _) _ _ _); (try k_gentoks); refine execsO ?_; intro _ _) | walk1 | (dsimp only; walk1) | (leave1; walk_say "STEP leave1"; (try dsimp only)) | (refine Nx.nx (by with_reducible assumption) ?_) | (refine Nx.rt (by with_reducible assumption) ?_) | fail "no step"))
    rename Fr _ _ _ _ => FZ
    refine ⟨.inl ⟨_, _, [], rfl, raisesW_false (by wrow_none_raised), ReadsW.bool true, ?_, fun _ => ⟨List.nodup_nil, fun _ hm => (nomatch hm)⟩⟩, .of_keep FZ.keep, rfl, ?_⟩
    · skip
      first | rfl | wrow_post
    · exact bG0 (bG2 (bG1 (AllBare.of_eq hg))))
end Mine
end
end
section
open PySem PySem.W PySem.Float64
set_option maxRecDepth 20000
set_option exponentiation.threshold 4000
namespace Mine
noncomputable def Fn (x : UInt64) : Prop := ∃ a m e, decode x = .fin a m e
theorem Fn.fin {x : UInt64} (h : Fn x) : isFinite x = true := by
  obtain ⟨a, m, e, h⟩ := h
  unfold isFinite
  rw [h]
theorem Fn.of {x : UInt64} (h : isFinite x = true) : Fn x := by
  unfold isFinite at h
  split at h
  · exact ⟨_, _, _, by assumption⟩
  · cases h
/-- the grid of step 2^-48 below 32 -/
theorem grid {K : Nat} (hK : 52 ≤ K) (j : Nat) (hj : j < 2 ^ 53) : ∃ t, V t = j * 2 ^ K := by
  by_cases h0 : j = 0
  · exact ⟨0, by rw [h0, Nat.zero_mul]; rfl⟩
  have h1 := Nat.log2_self_le h0
  have h2 := @Nat.lt_log2_self j
  have hk : j.log2 ≤ 52 := by
    rcases Nat.lt_or_ge j.log2 53 with h | h
    · lia
    · have := Nat.pow_le_pow_right (n := 2) (by lia) h
      lia
  refine ⟨(K - 52 + j.log2) * 2 ^ 52 + j * 2 ^ (52 - j.log2), ?_⟩
  have e1 : 2 ^ j.log2 * 2 ^ (52 - j.log2) = 2 ^ 52 := by rw [← Nat.pow_add]; congr 1; lia
  have e2 : 2 ^ (j.log2 + 1) * 2 ^ (52 - j.log2) = 2 ^ 53 := by rw [← Nat.pow_add]; congr 1; lia
  have h3 := Nat.mul_le_mul_right (2 ^ (52 - j.log2)) h1
  have h4 := Nat.mul_le_mul_right (2 ^ (52 - j.log2)) (Nat.le_of_lt h2)
  rw [e1] at h3
  rw [e2] at h4
  rw [V_at h4 (.inl h3), Nat.mul_assoc, ← Nat.pow_add]
  congr 2
  lia
theorem near_arith {W A Z Y X : Nat} (h1 : Z + Y = W) (h2 : Y < A) (hd : dist W X ≤ dist W Z) : X ≤ W + A ∧ W ≤ X + A := by
  unfold dist at hd
  lia
theorem half_core {p d M S k : Nat} (hp : 0 < d) (hs : p * S = M * d) (g1 : 2 * M < 2 * k * S + S) (g2 : 2 * k * S < 2 * M + S) : 2 * p < (2 * k + 1) * d ∧ 2 * k * d < 2 * p + d := by
  have g1' : 2 * M * d < (2 * k * S + S) * d := Nat.mul_lt_mul_of_pos_right g1 hp
  have g2' : 2 * k * S * d < (2 * M + S) * d := Nat.mul_lt_mul_of_pos_right g2 hp
  have e1 : 2 * M * d = 2 * p * S := by rw [Nat.mul_assoc, ← hs, Nat.mul_assoc]
  have e2 : (2 * k * S + S) * d = (2 * k + 1) * d * S := by rw [Nat.add_mul, Nat.add_mul, Nat.add_mul, Nat.one_mul, Nat.mul_right_comm (2 * k), Nat.mul_comm S d]
  have e3 : 2 * k * S * d = 2 * k * d * S := Nat.mul_right_comm ..
  have e4 : (2 * M + S) * d = (2 * p + d) * S := by rw [Nat.add_mul, Nat.add_mul, e1, Nat.mul_comm S d]
  rw [e1, e2] at g1'
  rw [e3, e4] at g2'
  exact ⟨Nat.lt_of_mul_lt_mul_right g1', Nat.lt_of_mul_lt_mul_right g2'⟩
theorem near {r : UInt64} {neg : Bool} {W D : Nat} (K : Nat) (hK : 52 ≤ K ∧ K ≤ 1900) (h : Right r neg W D) (hD : 0 < D) (hW : W < D * 2 ^ (K + 52)) : Fn r ∧ ∃ v : Nat, val r = sgn neg v ∧ D * v ≤ W + D * 2 ^ K ∧ W ≤ D * v + D * 2 ^ K := by
  obtain ⟨t, rfl, ht, hi, hn⟩ := h
  have big : D * 2 ^ (K + 53) ≤ D * ((2 ^ 54 - 1) * 2 ^ 2045) := Nat.mul_le_mul_left D (Nat.le_trans (Nat.pow_le_pow_right (by lia) (by lia : K + 53 ≤ 2045)) (by decide))
  have hW2 : 2 * W < D * 2 ^ (K + 53) := by
    have : D * 2 ^ (K + 53) = 2 * (D * 2 ^ (K + 52)) := by rw [Nat.pow_succ, ← Nat.mul_assoc, Nat.mul_comm]
    rw [this]
    exact Nat.mul_lt_mul_of_pos_left hW (by decide)
  have hlt : t < infMag := by
    rcases Nat.lt_or_ge t infMag with h | h
    · exact h
    · exact absurd (hi.mp (Nat.le_antisymm ht h)) (Nat.not_le_of_lt (Nat.lt_of_lt_of_le hW2 big))
  obtain ⟨m, e, hd, hv⟩ := decode_pack neg hlt
  refine ⟨⟨_, _, _, hd⟩, V t, val_pack neg hlt, ?_⟩
  have hA : 0 < D * 2 ^ K := Nat.mul_pos hD (Nat.two_pow_pos _)
  have hj : W / (D * 2 ^ K) < 2 ^ 53 := by
    refine Nat.div_lt_of_lt_mul (Nat.lt_of_lt_of_le hW ?_)
    rw [Nat.mul_assoc, ← Nat.pow_add]
    exact Nat.mul_le_mul_left D (Nat.pow_le_pow_right (by lia) (by lia))
  obtain ⟨t', ht'⟩ := grid hK.1 _ hj
  have hd := (hn hlt t').1
  rw [ht', Nat.mul_comm (W / (D * 2 ^ K)), ← Nat.mul_assoc] at hd
  exact near_arith (Nat.div_add_mod W (D * 2 ^ K)) (Nat.mod_lt W hA) hd
theorem sgn_near {a : Bool} {v W : Nat} {D A : Int} (h1 : D * v ≤ W + A) (h2 : (W : Int) ≤ D * v + A) : D * sgn a v ≤ sgn a W + A ∧ sgn a W ≤ D * sgn a v + A := by
  unfold sgn
  cases a
  · exact ⟨h1, h2⟩
  · simp only [if_true, Int.mul_neg]
    lia
theorem fn_zero (b : Bool) : Fn (zero b) ∧ val (zero b) = 0 := by
  cases b
  · exact ⟨Fn.of (by decide +kernel), by decide +kernel⟩
  · exact ⟨Fn.of (by decide +kernel), by decide +kernel⟩
theorem sgn_abs (z : Int) : sgn (decide (z < 0)) z.natAbs = z := by
  unfold sgn
  by_cases h : z < 0
  · rw [decide_eq_true h]; simp only [if_true]; lia
  · rw [decide_eq_false h]; simp only [Bool.false_eq_true, if_false]; lia
theorem near_int {r : UInt64} {z : Int} (h : Right r (decide (z < 0)) z.natAbs 1) (hz : z.natAbs < 2 ^ 1078) : Fn r ∧ val r ≤ z + 2 ^ 1026 ∧ z ≤ val r + 2 ^ 1026 := by
  obtain ⟨hf, v, hv, h1, h2⟩ := near 1026 (by decide) h (by decide) (by lia)
  have := sgn_near (a := decide (z < 0)) (v := v) (W := z.natAbs) (D := 1) (A := 2 ^ 1026) (by lia) (by lia)
  rw [sgn_abs] at this
  rw [hv]
  exact ⟨hf, by lia, by lia⟩
theorem add_near {x y : UInt64} (hx : Fn x) (hy : Fn y) (hz : (val x + val y).natAbs < 2 ^ 1078) : Fn (add x y) ∧ val (add x y) ≤ val x + val y + 2 ^ 1026 ∧ val x + val y ≤ val (add x y) + 2 ^ 1026 := by
  obtain ⟨a, m, e, hx⟩ := hx
  obtain ⟨b, k, f, hy⟩ := hy
  have h := add_right hx hy
  by_cases h0 : val x + val y = 0
  · rw [h.1 h0, h0]
    obtain ⟨h1, h2⟩ := fn_zero (a && b)
    exact ⟨h1, by rw [h2]; lia, by rw [h2]; lia⟩
  · exact near_int (h.2 h0) hz
theorem sub_near {x y : UInt64} (hx : Fn x) (hy : Fn y) (hz : (val x - val y).natAbs < 2 ^ 1078) : Fn (Float64.sub x y) ∧ val (Float64.sub x y) ≤ val x - val y + 2 ^ 1026 ∧ val x - val y ≤ val (Float64.sub x y) + 2 ^ 1026 := by
  obtain ⟨b, k, f, hy⟩ := hy
  have h1 : Fn (neg y) := ⟨_, _, _, neg_decode hy⟩
  have h2 := neg_val hy
  have := add_near hx h1 (by rw [h2]; lia)
  rw [h2] at this
  have e : Float64.sub x y = add x (neg y) := by unfold Float64.sub; rfl
  rw [e, Int.sub_eq_add_neg]
  exact this
theorem sgn_mul_sgn (a b : Bool) (m k : Nat) : sgn a m * sgn b k = sgn (a != b) (m * k) := by
  unfold sgn
  cases a <;> cases b <;> simp [Int.natCast_mul, Int.neg_mul, Int.mul_neg]
theorem mul_near (K : Nat) (hK : 52 ≤ K ∧ K ≤ 1900) {x y : UInt64} (hx : Fn x) (hy : Fn y) (hz : (val x).natAbs * (val y).natAbs < 2 ^ 1074 * 2 ^ (K + 52)) : Fn (mul x y) ∧ 2 ^ 1074 * val (mul x y) ≤ val x * val y + 2 ^ 1074 * 2 ^ K ∧ val x * val y ≤ 2 ^ 1074 * val (mul x y) + 2 ^ 1074 * 2 ^ K := by
  obtain ⟨a, m, e, hx⟩ := hx
  obtain ⟨b, k, f, hy⟩ := hy
  have h := mul_right hx hy
  obtain ⟨hf, v, hv, h1, h2⟩ := near K hK h (by decide) hz
  have e1 : val x * val y = sgn (a != b) ((val x).natAbs * (val y).natAbs) := by
    rw [val_natAbs hx, val_natAbs hy, val_eq hx, val_eq hy]
    exact sgn_mul_sgn _ _ _ _
  rw [e1, hv]
  refine ⟨hf, sgn_near (by exact_mod_cast h1) (by exact_mod_cast h2)⟩
theorem nearest_of {x : UInt64} {n : Int} (hx : Fn x) (h1 : 2 * val x < 2 * n * 2 ^ 1074 + 2 ^ 1074) (h2 : 2 * n * 2 ^ 1074 < 2 * val x + 2 ^ 1074) : Flt.toInt nearestOf x = n := by
  obtain ⟨a, m, e, hx⟩ := hx
  have hv := val_eq hx
  have hs := shift_one m e 1074 (decode_ge hx)
  have hp := shift_pos m 1 e (by decide)
  unfold Flt.toInt
  rw [hx]
  show (let (n, d) := shift m 1 e; sgn a (halfEven n d)) = n
  generalize hsh : shift m 1 e = sh at *
  obtain ⟨p, d⟩ := sh
  show sgn a (halfEven p d) = n
  simp only at hs hp
  have e1 : (e + 1074).toNat = (e + (1074 : Nat)).toNat := rfl
  rw [e1] at hv
  generalize m * 2 ^ (e + (1074 : Nat)).toNat = M at *
  have core : ∀ k : Nat, (2 * (M : Int) < 2 * k * 2 ^ 1074 + 2 ^ 1074) → (2 * (k : Int) * 2 ^ 1074 < 2 * M + 2 ^ 1074) → halfEven p d = k := by
    intro k g1 g2
    have hn := halfEven_nearest p d hp k
    obtain ⟨q1, q2⟩ := half_core hp hs (k := k) (by lia) (by lia)
    have q3 : (2 * k + 1) * d = 2 * (d * k) + d := by rw [Nat.add_mul, Nat.one_mul, Nat.mul_assoc, Nat.mul_comm k]
    have q4 : 2 * k * d = 2 * (d * k) := by rw [Nat.mul_assoc, Nat.mul_comm k]
    rw [q3] at q1
    rw [q4] at q2
    rcases Nat.lt_trichotomy (halfEven p d) k with h | h | h
    · exfalso
      have := Nat.mul_le_mul_left d (show halfEven p d + 1 ≤ k from h)
      rw [Nat.mul_add, Nat.mul_one] at this
      unfold dist at hn
      lia
    · exact h
    · exfalso
      have := Nat.mul_le_mul_left d (show k + 1 ≤ halfEven p d from h)
      rw [Nat.mul_add, Nat.mul_one] at this
      unfold dist at hn
      lia
  rw [hv] at h1 h2
  unfold sgn at h1 h2 ⊢
  cases a
  · simp only [Bool.false_eq_true, if_false] at h1 h2 ⊢
    obtain ⟨k, rfl⟩ : ∃ k : Nat, n = k := ⟨n.toNat, by lia⟩
    rw [core k h1 h2]
  · simp only [if_true] at h1 h2 ⊢
    obtain ⟨k, rfl⟩ : ∃ k : Nat, n = -(k : Int) := ⟨(-n).toNat, by lia⟩
    rw [core k (by lia) (by lia)]
end Mine
end
section
open PySem PySem.W PySem.Float64
set_option maxRecDepth 20000
set_option exponentiation.threshold 4000
namespace Mine
theorem c64_tab : ((List.range 61).all fun k => isFinite (c64 (k : Nat)) && val (c64 (k : Nat)) == ((k : Nat) : Int) * 2 ^ 1068) = true := by decide +kernel
theorem c64_val {a : Int} (h : 0 ≤ a ∧ a ≤ 60) : Fn (c64 a) ∧ val (c64 a) = a * 2 ^ 1068 := by
  obtain ⟨k, rfl⟩ : ∃ k : Nat, a = k := ⟨a.toNat, by lia⟩
  have := List.all_eq_true.mp c64_tab k (List.mem_range.mpr (by lia))
  rw [Bool.and_eq_true, beq_iff_eq] at this
  exact ⟨Fn.of this.1, this.2⟩
theorem k1 : Fn 4599075939470750515 ∧ val 4599075939470750515 = 5404319552844595 * 2 ^ 1020 := ⟨.of (by decide +kernel), by decide +kernel⟩
theorem k2 : Fn 4603489467105573601 ∧ val 4603489467105573601 = 5314247560297185 * 2 ^ 1021 := ⟨.of (by decide +kernel), by decide +kernel⟩
theorem k3 : Fn 4592590756007337001 ∧ val 4592590756007337001 = 7926335344172073 * 2 ^ 1018 := ⟨.of (by decide +kernel), by decide +kernel⟩
theorem k4 : Fn 4604840546993784750 ∧ val 4604840546993784750 = 6665327448508334 * 2 ^ 1021 := ⟨.of (by decide +kernel), by decide +kernel⟩
theorem k5 : Fn 4598535507515466056 ∧ val 4598535507515466056 = 4863887597560136 * 2 ^ 1020 := ⟨.of (by decide +kernel), by decide +kernel⟩
theorem k6 : Fn 4602318531202457272 ∧ val 4602318531202457272 = 8646911284551352 * 2 ^ 1020 := ⟨.of (by decide +kernel), by decide +kernel⟩
theorem k7 : Fn 4601057523306793533 ∧ val 4601057523306793533 = 7385903388887613 * 2 ^ 1020 := ⟨.of (by decide +kernel), by decide +kernel⟩
theorem k8 : Fn (Float64.ofInt 6400) ∧ val (Float64.ofInt 6400) = 6400 * 2 ^ 1074 := ⟨.of (by decide +kernel), by decide +kernel⟩
theorem k9 : Fn (Float64.ofInt 640000) ∧ val (Float64.ofInt 640000) = 640000 * 2 ^ 1074 := ⟨.of (by decide +kernel), by decide +kernel⟩
/-- a product with a constant, small -/
theorem mulc {c x : UInt64} {C : Int} (hc : Fn c ∧ val c = C) (hC : C.natAbs ≤ 2 ^ 1074) (hx : Fn x) (hb : (val x).natAbs ≤ 2 ^ 1077) : Fn (mul c x) ∧ 2 ^ 1074 * val (mul c x) ≤ C * val x + 2 ^ 2100 ∧ C * val x ≤ 2 ^ 1074 * val (mul c x) + 2 ^ 2100 := by
  have := mul_near 1026 (by decide) hc.1 hx (Nat.lt_of_le_of_lt (Nat.mul_le_mul (by rw [hc.2]; exact hC) hb) (by decide))
  rw [hc.2] at this
  rw [show (2 : Int) ^ 1074 * 2 ^ 1026 = 2 ^ 2100 by decide +kernel] at this
  exact this
/-- a product with a big constant -/
theorem mulb {c x : UInt64} {C : Int} (hc : Fn c ∧ val c = C) (hC : C.natAbs ≤ 2 ^ 1094) (hx : Fn x) (hb : (val x).natAbs ≤ 2 ^ 1075) : Fn (mul c x) ∧ 2 ^ 1074 * val (mul c x) ≤ C * val x + 2 ^ 2118 ∧ C * val x ≤ 2 ^ 1074 * val (mul c x) + 2 ^ 2118 := by
  have := mul_near 1044 (by decide) hc.1 hx (Nat.lt_of_le_of_lt (Nat.mul_le_mul (by rw [hc.2]; exact hC) hb) (by decide))
  rw [hc.2] at this
  rw [show (2 : Int) ^ 1074 * 2 ^ 1044 = 2 ^ 2118 by decide +kernel] at this
  exact this
section
variable {r g b : Int}
theorem y_near (hr : 0 ≤ r ∧ r ≤ 60) (hg : 0 ≤ g ∧ g ≤ 60) (hb : 0 ≤ b ∧ b ≤ 60) : Fn (yF (c64 r) (c64 g) (c64 b)) ∧
    6400 * val (yF (c64 r) (c64 g) (c64 b)) ≤ (30 * r + 59 * g + 11 * b) * 2 ^ 1074 + 2 ^ 1043 ∧ (30 * r + 59 * g + 11 * b) * 2 ^ 1074 ≤ 6400 * val (yF (c64 r) (c64 g) (c64 b)) + 2 ^ 1043 := by
  obtain ⟨fr, er⟩ := c64_val hr
  obtain ⟨fg, eg⟩ := c64_val hg
  obtain ⟨fb, eb⟩ := c64_val hb
  obtain ⟨f1, a1, b1⟩ := mulc k1 (by decide +kernel) fr (by rw [er]; lia)
  obtain ⟨f2, a2, b2⟩ := mulc k2 (by decide +kernel) fg (by rw [eg]; lia)
  obtain ⟨f3, a3, b3⟩ := mulc k3 (by decide +kernel) fb (by rw [eb]; lia)
  rw [er] at a1 b1
  rw [eg] at a2 b2
  rw [eb] at a3 b3
  obtain ⟨f4, a4, b4⟩ := add_near f1 f2 (by lia)
  obtain ⟨f5, a5, b5⟩ := add_near f4 f3 (by lia)
  unfold yF
  refine ⟨f5, ?_, ?_⟩ <;> lia
theorem sub1 {x y : UInt64} {X : Int} (hx : Fn x ∧ val x = X * 2 ^ 1068) (hX : 0 ≤ X ∧ X ≤ 60) (hy : Fn y) {Y : Int} (hY : 0 ≤ Y ∧ Y ≤ 6000) (h1 : 6400 * val y ≤ Y * 2 ^ 1074 + 2 ^ 1043) (h2 : Y * 2 ^ 1074 ≤ 6400 * val y + 2 ^ 1043) :
    Fn (Float64.sub x y) ∧ (val (Float64.sub x y)).natAbs ≤ 2 ^ 1077 ∧ 6400 * val (Float64.sub x y) ≤ (100 * X - Y) * 2 ^ 1074 + 2 ^ 1044 ∧ (100 * X - Y) * 2 ^ 1074 ≤ 6400 * val (Float64.sub x y) + 2 ^ 1044 := by
  have e := hx.2
  obtain ⟨f, a, b⟩ := sub_near hx.1 hy (by rw [e]; lia)
  rw [e] at a b
  exact ⟨f, by lia, by lia, by lia⟩
/-- two products and their sum, times 640000: from above -/
theorem chain2 {C D d1 d2 p3 p4 v5 v6 Z1 Z2 S T U W X : Int} (hC : 0 ≤ C) (hD : 0 ≤ D) (a1 : 6400 * d1 ≤ Z1 * S + U) (c2 : Z2 * S ≤ 6400 * d2 + U) (a3 : T * p3 ≤ C * d1 + W) (c4 : D * d2 ≤ T * p4 + W) (a5 : T * v5 ≤ T * p3 - T * p4 + W) (a6 : T * v6 ≤ 640000 * (T * v5) + X) :
    T * v6 ≤ 100 * (C * (Z1 * S)) - 100 * (D * (Z2 * S)) + (100 * (C * U) + 100 * (D * U) + 1920000 * W + X) := by
  have h1 := Int.mul_le_mul_of_nonneg_left a1 hC
  have h2 := Int.mul_le_mul_of_nonneg_left c2 hD
  rw [Int.mul_add, Int.mul_left_comm] at h1
  rw [Int.mul_add, Int.mul_left_comm D 6400] at h2
  generalize C * d1 = q1 at *
  generalize D * d2 = q2 at *
  generalize T * p3 = q3 at *
  generalize T * p4 = q4 at *
  generalize T * v5 = q5 at *
  generalize T * v6 = q6 at *
  lia
theorem n1_of (hr : 0 ≤ r ∧ r ≤ 60) (hg : 0 ≤ g ∧ g ≤ 60) (hb : 0 ≤ b ∧ b ≤ 60) : Fn (mul (Float64.ofInt 6400) (yF (c64 r) (c64 g) (c64 b))) ∧ Flt.toInt nearestOf (mul (Float64.ofInt 6400) (yF (c64 r) (c64 g) (c64 b))) = 30 * r + 59 * g + 11 * b := by
  obtain ⟨f, a, c⟩ := y_near hr hg hb
  obtain ⟨f1, a1, b1⟩ := mulb k8 (by decide +kernel) f (by lia)
  exact ⟨f1, nearest_of f1 (by lia) (by lia)⟩
theorem n2_of (hr : 0 ≤ r ∧ r ≤ 60) (hg : 0 ≤ g ∧ g ≤ 60) (hb : 0 ≤ b ∧ b ≤ 60) : Fn (mul (Float64.ofInt 640000) (iF (c64 r) (c64 g) (c64 b))) ∧ Flt.toInt nearestOf (mul (Float64.ofInt 640000) (iF (c64 r) (c64 g) (c64 b))) = 5990 * r - 2773 * g - 3217 * b := by
  obtain ⟨f, a, c⟩ := y_near hr hg hb
  obtain ⟨f1, z1, a1, c1⟩ := sub1 (c64_val hr) hr f (by lia) a c
  obtain ⟨f2, z2, a2, c2⟩ := sub1 (c64_val hb) hb f (by lia) a c
  obtain ⟨f3, a3, c3⟩ := mulc k4 (by decide +kernel) f1 z1
  obtain ⟨f4, a4, c4⟩ := mulc k5 (by decide +kernel) f2 z2
  obtain ⟨f5, a5, c5⟩ := sub_near f3 f4 (by lia)
  obtain ⟨f6, a6, c6⟩ := mulb k9 (by decide +kernel) f5 (by lia)
  refine ⟨f6, ?_⟩
  have key : ∀ n : Int, (2 * val (mul (Float64.ofInt 640000) (iF (c64 r) (c64 g) (c64 b))) < 2 * n * 2 ^ 1074 + 2 ^ 1074) ∧ (2 * n * 2 ^ 1074 < 2 * val (mul (Float64.ofInt 640000) (iF (c64 r) (c64 g) (c64 b))) + 2 ^ 1074) → Flt.toInt nearestOf (mul (Float64.ofInt 640000) (iF (c64 r) (c64 g) (c64 b))) = n := fun n h => nearest_of f6 h.1 h.2
  apply key
  clear key z1 z2 f1 f2 f3 f4 f5 f6 f a c
  unfold iF at *
  generalize val (mul (Float64.ofInt 640000) _) = V6 at *
  generalize val (Float64.sub (mul _ _) (mul _ _)) = V5 at *
  generalize val (mul 4604840546993784750 _) = P3 at *
  generalize val (mul 4598535507515466056 _) = P4 at *
  generalize val (Float64.sub (c64 r) _) = D1 at *
  generalize val (Float64.sub (c64 b) _) = D2 at *
  have up := chain2 (C := 6665327448508334 * 2 ^ 1021) (D := 4863887597560136 * 2 ^ 1020) (d1 := (D1)) (d2 := (D2)) (p3 := (P3)) (p4 := (P4)) (v5 := (V5)) (v6 := (V6)) (Z1 := (100 * r - (30 * r + 59 * g + 11 * b))) (Z2 := (100 * b - (30 * r + 59 * g + 11 * b))) (S := 2 ^ 1074) (T := 2 ^ 1074) (U := 2 ^ 1044) (W := 2 ^ 2100) (X := 2 ^ 2118) (by decide +kernel) (by decide +kernel) (by clear a2 c2 a3 c3 a4 c4 a5 c5 a6 c6; lia) (by clear a1 c1 a3 c3 a4 c4 a5 c5 a6 c6; lia) (by clear a1 c1 a2 c2 a4 c4 a5 c5 a6 c6; lia) (by clear a1 c1 a2 c2 a3 c3 a5 c5 a6 c6; lia) (by clear a1 c1 a2 c2 a3 c3 a4 c4 a6 c6; lia) (by clear a1 c1 a2 c2 a3 c3 a4 c4 a5 c5; lia)
  have lo := chain2 (C := 6665327448508334 * 2 ^ 1021) (D := 4863887597560136 * 2 ^ 1020) (d1 := (-(D1))) (d2 := (-(D2))) (p3 := (-(P3))) (p4 := (-(P4))) (v5 := (-(V5))) (v6 := (-(V6))) (Z1 := (-(100 * r - (30 * r + 59 * g + 11 * b)))) (Z2 := (-(100 * b - (30 * r + 59 * g + 11 * b)))) (S := 2 ^ 1074) (T := 2 ^ 1074) (U := 2 ^ 1044) (W := 2 ^ 2100) (X := 2 ^ 2118) (by decide +kernel) (by decide +kernel) (by clear a2 c2 a3 c3 a4 c4 a5 c5 a6 c6; lia) (by clear a1 c1 a3 c3 a4 c4 a5 c5 a6 c6; lia) (by clear a1 c1 a2 c2 a4 c4 a5 c5 a6 c6; lia) (by clear a1 c1 a2 c2 a3 c3 a5 c5 a6 c6; lia) (by clear a1 c1 a2 c2 a3 c3 a4 c4 a6 c6; lia) (by clear a1 c1 a2 c2 a3 c3 a4 c4 a5 c5; lia)
  clear a1 c1 a2 c2 a3 c3 a4 c4 a5 c5 a6 c6
  constructor <;> lia
theorem n3_of (hr : 0 ≤ r ∧ r ≤ 60) (hg : 0 ≤ g ∧ g ≤ 60) (hb : 0 ≤ b ∧ b ≤ 60) : Fn (mul (Float64.ofInt 640000) (qF (c64 r) (c64 g) (c64 b))) ∧ Flt.toInt nearestOf (mul (Float64.ofInt 640000) (qF (c64 r) (c64 g) (c64 b))) = 2130 * r - 5251 * g + 3121 * b := by
  obtain ⟨f, a, c⟩ := y_near hr hg hb
  obtain ⟨f1, z1, a1, c1⟩ := sub1 (c64_val hr) hr f (by lia) a c
  obtain ⟨f2, z2, a2, c2⟩ := sub1 (c64_val hb) hb f (by lia) a c
  obtain ⟨f3, a3, c3⟩ := mulc k6 (by decide +kernel) f1 z1
  obtain ⟨f4, a4, c4⟩ := mulc k7 (by decide +kernel) f2 z2
  obtain ⟨f5, a5, c5⟩ := add_near f3 f4 (by lia)
  obtain ⟨f6, a6, c6⟩ := mulb k9 (by decide +kernel) f5 (by lia)
  refine ⟨f6, ?_⟩
  have key : ∀ n : Int, (2 * val (mul (Float64.ofInt 640000) (qF (c64 r) (c64 g) (c64 b))) < 2 * n * 2 ^ 1074 + 2 ^ 1074) ∧ (2 * n * 2 ^ 1074 < 2 * val (mul (Float64.ofInt 640000) (qF (c64 r) (c64 g) (c64 b))) + 2 ^ 1074) → Flt.toInt nearestOf (mul (Float64.ofInt 640000) (qF (c64 r) (c64 g) (c64 b))) = n := fun n h => nearest_of f6 h.1 h.2
  apply key
  clear key z1 z2 f1 f2 f3 f4 f5 f6 f a c
  unfold qF at *
  generalize val (mul (Float64.ofInt 640000) _) = V6 at *
  generalize val (add (mul _ _) (mul _ _)) = V5 at *
  generalize val (mul 4602318531202457272 _) = P3 at *
  generalize val (mul 4601057523306793533 _) = P4 at *
  generalize val (Float64.sub (c64 r) _) = D1 at *
  generalize val (Float64.sub (c64 b) _) = D2 at *
  have up := chain2 (C := 8646911284551352 * 2 ^ 1020) (D := 7385903388887613 * 2 ^ 1020) (d1 := (D1)) (d2 := (-(D2))) (p3 := (P3)) (p4 := (-(P4))) (v5 := (V5)) (v6 := (V6)) (Z1 := (100 * r - (30 * r + 59 * g + 11 * b))) (Z2 := (-(100 * b - (30 * r + 59 * g + 11 * b)))) (S := 2 ^ 1074) (T := 2 ^ 1074) (U := 2 ^ 1044) (W := 2 ^ 2100) (X := 2 ^ 2118) (by decide +kernel) (by decide +kernel) (by clear a2 c2 a3 c3 a4 c4 a5 c5 a6 c6; lia) (by clear a1 c1 a3 c3 a4 c4 a5 c5 a6 c6; lia) (by clear a1 c1 a2 c2 a4 c4 a5 c5 a6 c6; lia) (by clear a1 c1 a2 c2 a3 c3 a5 c5 a6 c6; lia) (by clear a1 c1 a2 c2 a3 c3 a4 c4 a6 c6; lia) (by clear a1 c1 a2 c2 a3 c3 a4 c4 a5 c5; lia)
  have lo := chain2 (C := 8646911284551352 * 2 ^ 1020) (D := 7385903388887613 * 2 ^ 1020) (d1 := (-(D1))) (d2 := (D2)) (p3 := (-(P3))) (p4 := (P4)) (v5 := (-(V5))) (v6 := (-(V6))) (Z1 := (-(100 * r - (30 * r + 59 * g + 11 * b)))) (Z2 := (100 * b - (30 * r + 59 * g + 11 * b))) (S := 2 ^ 1074) (T := 2 ^ 1074) (U := 2 ^ 1044) (W := 2 ^ 2100) (X := 2 ^ 2118) (by decide +kernel) (by decide +kernel) (by clear a2 c2 a3 c3 a4 c4 a5 c5 a6 c6; lia) (by clear a1 c1 a3 c3 a4 c4 a5 c5 a6 c6; lia) (by clear a1 c1 a2 c2 a4 c4 a5 c5 a6 c6; lia) (by clear a1 c1 a2 c2 a3 c3 a5 c5 a6 c6; lia) (by clear a1 c1 a2 c2 a3 c3 a4 c4 a6 c6; lia) (by clear a1 c1 a2 c2 a3 c3 a4 c4 a5 c5; lia)
  clear a1 c1 a2 c2 a3 c3 a4 c4 a5 c5 a6 c6
  constructor <;> lia
end
theorem fgt_c {a b : Int} (ha : 0 ≤ a ∧ a ≤ 60) (hb : 0 ≤ b ∧ b ≤ 60) : Float64.cmp (c64 a) (c64 b) = some (compare a b) := by
  obtain ⟨⟨_, _, _, f1⟩, e1⟩ := c64_val ha
  obtain ⟨⟨_, _, _, f2⟩, e2⟩ := c64_val hb
  rw [cmp_right f1 f2, e1, e2]
  congr 1
  rcases Int.lt_trichotomy a b with h | h | h
  · rw [Int.compare_eq_lt.mpr h, Int.compare_eq_lt.mpr (by lia)]
  · rw [h, Int.compare_eq_eq.mpr rfl, Int.compare_eq_eq.mpr rfl]
  · rw [Int.compare_eq_gt.mpr h, Int.compare_eq_gt.mpr (by lia)]
theorem max2_c {a b : Int} (ha : 0 ≤ a ∧ a ≤ 60) (hb : 0 ≤ b ∧ b ≤ 60) : fmax2 (c64 a) (c64 b) = c64 (max a b) := by
  have h := fgt_c hb ha
  unfold fmax2 fgt
  rw [h]
  rcases Int.lt_trichotomy b a with q | q | q
  · rw [Int.compare_eq_lt.mpr q, Int.max_eq_left (by lia)]; rfl
  · rw [q, Int.compare_eq_eq.mpr rfl, Int.max_self]; rfl
  · rw [Int.compare_eq_gt.mpr q, Int.max_eq_right (by lia)]; rfl
theorem min2_c {a b : Int} (ha : 0 ≤ a ∧ a ≤ 60) (hb : 0 ≤ b ∧ b ≤ 60) : fmin2 (c64 a) (c64 b) = c64 (min a b) := by
  have h := fgt_c hb ha
  unfold fmin2 flt
  rw [h]
  rcases Int.lt_trichotomy b a with q | q | q
  · rw [Int.compare_eq_lt.mpr q, Int.min_eq_right (by lia)]; rfl
  · rw [q, Int.compare_eq_eq.mpr rfl, Int.min_self]; rfl
  · rw [Int.compare_eq_gt.mpr q, Int.min_eq_left (by lia)]; rfl
theorem top_tab : ((List.range 61).all fun k => mul (Float64.ofInt 64) (c64 (k : Nat)) == FI (k : Nat)) = true := by decide +kernel
noncomputable def lowT (a b : Nat) : Bool := mul (Float64.ofInt 64) (Float64.sub (mul (Float64.ofInt 2) (Float64.div (add (c64 a) (c64 b)) 4611686018427387904)) (c64 a)) == FI b &&
  (a == b || (!isZero (c64 a) && !isZero (Float64.sub (c64 a) (c64 b)) && !isZero (add (c64 a) (c64 b)) && !isZero (Float64.sub (Float64.sub 4611686018427387904 (c64 a)) (c64 b))))
noncomputable def lowRow (a : Nat) : Bool := (List.range (a + 1)).all fun b => lowT a b
theorem low0 : ((List.range' 0 25).all lowRow) = true := by decide +kernel
theorem low1 : ((List.range' 25 10).all lowRow) = true := by decide +kernel
theorem low2 : ((List.range' 35 8).all lowRow) = true := by decide +kernel
theorem low3 : ((List.range' 43 7).all lowRow) = true := by decide +kernel
theorem low4 : ((List.range' 50 6).all lowRow) = true := by decide +kernel
theorem low5 : ((List.range' 56 5).all lowRow) = true := by decide +kernel
theorem low_row {a : Nat} (h : a < 61) : lowRow a = true := by
  by_cases h0 : a < 25
  · exact List.all_eq_true.mp low0 a (List.mem_range'_1.mpr ⟨by lia, by lia⟩)
  by_cases h1 : a < 35
  · exact List.all_eq_true.mp low1 a (List.mem_range'_1.mpr ⟨by lia, by lia⟩)
  by_cases h2 : a < 43
  · exact List.all_eq_true.mp low2 a (List.mem_range'_1.mpr ⟨by lia, by lia⟩)
  by_cases h3 : a < 50
  · exact List.all_eq_true.mp low3 a (List.mem_range'_1.mpr ⟨by lia, by lia⟩)
  by_cases h4 : a < 56
  · exact List.all_eq_true.mp low4 a (List.mem_range'_1.mpr ⟨by lia, by lia⟩)
  exact List.all_eq_true.mp low5 a (List.mem_range'_1.mpr ⟨by lia, by lia⟩)
theorem lamp_ok {l : Lamp} (h : Bd l) : LampOk l := by
  obtain ⟨hr, hg, hb⟩ := h
  have hm : 0 ≤ mx l ∧ mx l ≤ 60 := by unfold mx; lia
  have hn : 0 ≤ mn l ∧ mn l ≤ 60 := by unfold mn; lia
  have hmn : mn l ≤ mx l := by unfold mx mn; lia
  have eM : fmax3 (c64 l.r) (c64 l.g) (c64 l.b) = c64 (mx l) := by
    unfold fmax3
    rw [max2_c hr hg, max2_c (by lia) hb]; rfl
  have eN : fmin3 (c64 l.r) (c64 l.g) (c64 l.b) = c64 (mn l) := by
    unfold fmin3
    rw [min2_c hr hg, min2_c (by lia) hb]; rfl
  obtain ⟨M, hM⟩ : ∃ k : Nat, mx l = k := ⟨(mx l).toNat, by lia⟩
  obtain ⟨N, hN⟩ : ∃ k : Nat, mn l = k := ⟨(mn l).toNat, by lia⟩
  have t1 := List.all_eq_true.mp top_tab M (List.mem_range.mpr (by lia))
  have t2 := List.all_eq_true.mp (low_row (a := M) (by lia)) N (List.mem_range.mpr (by lia))
  unfold lowT at t2
  rw [Bool.and_eq_true, beq_iff_eq] at t2
  rw [beq_iff_eq] at t1
  obtain ⟨f1, n1⟩ := n1_of hr hg hb
  obtain ⟨f2, n2⟩ := n2_of hr hg hb
  obtain ⟨f3, n3⟩ := n3_of hr hg hb
  refine ⟨hr, hg, hb, ?_, ?_, ?_, f1.fin, n1, f2.fin, n2, f3.fin, n3⟩
  · unfold topX mxX
    rw [eM, hM]
    exact t1
  · unfold lowX mxX mnX
    rw [eM, eN, hM, hN]
    exact t2.1
  · rw [eM, eN]
    intro hc
    rw [fgt_c hn hm] at hc
    have hne : M ≠ N := by
      intro e
      rw [hM, hN, e, Int.compare_eq_eq.mpr rfl] at hc
      cases hc
    have q := t2.2
    rw [Bool.or_eq_true, beq_iff_eq] at q
    rcases q with q | q
    · exact absurd q hne
    simp only [Bool.and_eq_true, Bool.not_eq_true'] at q
    rw [hM, hN]
    exact ⟨q.1.1.1, q.1.1.2, q.1.2, q.2⟩
end Mine
end
section
open PySem PySem.W PyProof.Rows
set_option maxRecDepth 20000
namespace Mine
noncomputable def basesN : List Nat := [97, 65, 119808, 119860, 120224, 120432]
noncomputable def okC (k i : Nat) : Bool := match b3F k with
  | some (.str x _) => decide (Txt.find (Str.ofString "abcd") x = (i : Int))
  | none => decide (Txt.lower ⟨#[k]⟩ = ⟨#[97 + i]⟩) && decide (Txt.find (Str.ofString "abcd") ⟨#[97 + i]⟩ = (i : Int))
  | _ => false
noncomputable def gD (k : Nat) : Str := match b3F k with
  | some (.str x _) => x
  | _ => Txt.lower ⟨#[k]⟩
theorem okC_use {k i : Nat} (h : okC k i = true) : B3 k (gD k) ∧ Txt.find (Str.ofString "abcd") (gD k) = (i : Int) := by
  unfold okC at h
  unfold gD B3
  split at h
  · rename_i x t e
    rw [e]
    exact ⟨.inl ⟨t, rfl⟩, of_decide_eq_true h⟩
  · rename_i e
    rw [e]
    rw [Bool.and_eq_true] at h
    have h1 := of_decide_eq_true h.1
    have h2 := of_decide_eq_true h.2
    refine ⟨.inr ⟨rfl, _, h1, h1⟩, ?_⟩
    rw [← h1] at h2
    exact h2
  · cases h
/-- the table by its pairs alone -/
theorem entsR_find (k : Int) : ∀ (l : List (Int × Str)) (t d : Nat), (entsR t d l).find? (fun e => Value.isInt k e.key) = none ∧ l.find? (fun p => p.1 == k) = none ∨ ∃ e p u, (entsR t d l).find? (fun e => Value.isInt k e.key) = some e ∧ l.find? (fun p => p.1 == k) = some p ∧ e.val = .str p.2 u
  | [], _, _ => .inl ⟨rfl, rfl⟩
  | (i, x) :: r, t, d => by
    have e : Value.isInt k (.int i t) = (i == k) := rfl
    unfold entsR
    rw [List.find?_cons, List.find?_cons]
    simp only [e]
    cases h : (i == k) with
    | true => exact .inr ⟨_, _, _, rfl, rfl, rfl⟩
    | false => exact entsR_find k r (t + d) d
theorem b3_pairs (k : Int) : (b3F k = none ∧ tabA.find? (fun p => p.1 == k) = none) ∨ ∃ p u, b3F k = some (.str p.2 u) ∧ tabA.find? (fun p => p.1 == k) = some p := by
  have hs : tabA = tabA.take 646 ++ tabA.drop 646 := (List.take_append_drop 646 tabA).symm
  have hb : b3F k = (entB3.find? fun e => Value.isInt k e.key).map (·.val) := by
    unfold b3F findBy
    rw [List.find?_toArray]
  rw [hb, hs]
  unfold entB3
  rw [List.find?_append, List.find?_append]
  rcases entsR_find k (tabA.take 646) 320 3 with ⟨h1, h2⟩ | ⟨e, p, u, h1, h2, h3⟩
  · rw [h1, h2]
    rcases entsR_find k (tabA.drop 646) 2258 2 with ⟨g1, g2⟩ | ⟨e, p, u, g1, g2, g3⟩
    · rw [g1, g2]; exact .inl ⟨rfl, rfl⟩
    · rw [g1, g2]; exact .inr ⟨p, u, congrArg some g3, rfl⟩
  · rw [h1, h2]; exact .inr ⟨p, u, congrArg some h3, rfl⟩
noncomputable def okT (k i : Nat) : Bool := match tabA.find? (fun p => p.1 == (k : Int)) with
  | some p => decide (Txt.find (Str.ofString "abcd") p.2 = (i : Int))
  | none => decide (Txt.lower ⟨#[k]⟩ = ⟨#[97 + i]⟩) && decide (Txt.find (Str.ofString "abcd") ⟨#[97 + i]⟩ = (i : Int))
theorem okT_use {k i : Nat} (h : okT k i = true) : okC k i = true := by
  unfold okT at h
  unfold okC
  rcases b3_pairs k with ⟨e1, e2⟩ | ⟨p, u, e1, e2⟩
  · rw [e1]; rw [e2] at h; exact h
  · rw [e1]; rw [e2] at h; exact h
noncomputable def okRow (e : Nat) : Bool := (List.range 4).all fun j => decide (basesN.getD e 0 + j ≤ 1114111) && okT (basesN.getD e 0 + j) j
theorem ok0 : okRow 0 = true := by decide +kernel
theorem ok1 : okRow 1 = true := by decide +kernel
theorem ok2 : okRow 2 = true := by decide +kernel
theorem ok3 : okRow 3 = true := by decide +kernel
theorem ok4 : okRow 4 = true := by decide +kernel
theorem ok5 : okRow 5 = true := by decide +kernel
theorem okTab : ∀ {e : Nat}, e < 6 → okRow e = true
  | 0, _ => ok0
  | 1, _ => ok1
  | 2, _ => ok2
  | 3, _ => ok3
  | 4, _ => ok4
  | 5, _ => ok5
  | n + 6, h => absurd h (by lia)
theorem b1Tab (P : Params) : ((List.range 6).all fun e => (List.range 4).all fun j => !b1S P ((basesN.getD e 0 + j : Nat) : Int)) = true := by kernel_rfl
theorem b1Pad (P : Params) : b1S P ((8288 : Nat) : Int) = true := by kernel_rfl
theorem tyB_e (N : Int) : ∃ e, e < 6 ∧ tyB N = ((basesN.getD e 0 : Nat) : Int) := by
  have h1 := Int.fmod_nonneg_of_pos N (b := 6) (by lia)
  have h2 := Int.fmod_lt_of_pos N (b := 6) (by lia)
  refine ⟨(N.fmod 6).toNat, by lia, ?_⟩
  unfold tyB
  have : ∀ e, e < 6 → ([97, 65, 119808, 119860, 120224, 120432] : List Int).getD e 0 = ((basesN.getD e 0 : Nat) : Int) := by decide
  exact this _ (by lia)
theorem base_ok (P : Params) (N : Int) {j : Nat} (hj : j < 4) : ∃ k : Nat, tyB N + ((97 + j : Nat) : Int) - 97 = k ∧ k ≤ 1114111 ∧ okC k j = true ∧ b1S P (k : Int) = false := by
  obtain ⟨e, he, h⟩ := tyB_e N
  have t1 := List.all_eq_true.mp (okTab he) j (List.mem_range.mpr hj)
  have t2 := List.all_eq_true.mp (List.all_eq_true.mp (b1Tab P) e (List.mem_range.mpr he)) j (List.mem_range.mpr hj)
  rw [Bool.and_eq_true] at t1
  refine ⟨basesN.getD e 0 + j, by rw [h]; lia, of_decide_eq_true t1.1, okT_use t1.2, by simpa using t2⟩
theorem pad_ok (M : Int) : ∃ p : List Nat, (p = [] ∨ p = [8288]) ∧ Txt.mul ⟨#[8288]⟩ ((M.fmod 7).fdiv 6) = ⟨p.toArray⟩ := by
  have h1 := Int.fmod_nonneg_of_pos M (b := 7) (by lia)
  have h2 := Int.fmod_lt_of_pos M (b := 7) (by lia)
  have h3 : (M.fmod 7).fdiv 6 = (M.fmod 7) / 6 := Int.fdiv_eq_ediv_of_nonneg _ (by lia)
  have h4 : (M.fmod 7).fdiv 6 = 0 ∨ (M.fmod 7).fdiv 6 = 1 := by lia
  rcases h4 with h | h
  · exact ⟨[], .inl rfl, by rw [h]; decide +kernel⟩
  · exact ⟨[8288], .inr rfl, by rw [h]; decide +kernel⟩
/-- a word of signs, each with its pad, and the letters that they stand for -/
inductive Blks (P : Params) : List Nat → List Nat → Prop
  | nil : Blks P [] []
  | snoc {T is : List Nat} {k i : Nat} {p : List Nat} : Blks P T is → okC k i = true → b1S P (k : Int) = false → (p = [] ∨ p = [8288]) → Blks P (T ++ (k :: p)) (is ++ [i])
theorem Blks.len {P : Params} {T is : List Nat} (h : Blks P T is) : T.length ≤ 2 * is.length := by
  induction h with
  | nil => exact Nat.le_refl _
  | snoc _ _ _ hp ih =>
    rw [List.length_append, List.length_append]
    rcases hp with rfl | rfl
    · show _ + 1 ≤ 2 * (_ + 1); lia
    · show _ + 2 ≤ 2 * (_ + 1); lia
theorem Blks.good {P : Params} {T is : List Nat} (h : Blks P T is) : ∀ k ∈ T, b1S P (k : Int) = false → B3 k (gD k) := by
  induction h with
  | nil => intro k hk; cases hk
  | snoc _ hk _ hp ih =>
    intro x hx hb
    rcases List.mem_append.mp hx with hx | hx
    · exact ih x hx hb
    rcases List.mem_cons.mp hx with rfl | hx
    · exact (okC_use hk).1
    rcases hp with rfl | rfl
    · cases hx
    · rw [List.mem_singleton.mp hx, b1Pad P] at hb
      cases hb
theorem Blks.finds {P : Params} {T is : List Nat} (h : Blks P T is) : (((T.filter fun k : Nat => !b1S P (k : Int)).map gD).map fun x => Txt.find (Str.ofString "abcd") x) = is.map fun i : Nat => (i : Int) := by
  induction h with
  | nil => rfl
  | @snoc T is k i p _ hk hb hp ih =>
    have h1 : (k :: p).filter (fun k : Nat => !b1S P (k : Int)) = [k] := by
      rcases hp with rfl | rfl
      · rw [List.filter_cons, hb]; rfl
      · rw [List.filter_cons, hb, List.filter_cons, b1Pad P]; rfl
    rw [List.filter_append, h1, List.map_append, List.map_append, ih, List.map_append]
    show _ ++ [Txt.find (Str.ofString "abcd") (gD k)] = _ ++ [(i : Int)]
    rw [(okC_use hk).2]
noncomputable def SL (ls : List Nat) : Str := ⟨(ls.map fun i => 97 + i).toArray⟩
noncomputable def reach : List (List Nat) := [[0, 1, 2, 3], [0, 1, 2], [0, 1, 3], [0, 2, 3], [1, 2, 3], [0, 1], [0, 2], [0, 3], [1, 2], [1, 3], [2, 3], [0], [1], [2], [3], []]
theorem reachTab : (reach.all fun ls => (List.range ls.length).all fun i => decide (Txt.item (SL ls) (i : Nat) = ⟨#[97 + ls.getD i 0]⟩) && decide (Txt.replace (SL ls) ⟨#[97 + ls.getD i 0]⟩ (Str.ofString "") = SL (ls.eraseIdx i)) && decide (ls.eraseIdx i ∈ reach) && decide (ls.getD i 0 < 4)) = true := by decide +kernel
theorem reachLen : (reach.all fun ls => decide (ls.length ≤ 4)) = true := by decide +kernel
noncomputable def down : Nat → List Int
  | 0 => []
  | m + 1 => ((m + 1 : Nat) : Int) :: down m
theorem fdiv_b {N : Int} {k : Nat} (hk : 0 < k) (h : 0 ≤ N ∧ N < 1000000) : 0 ≤ N.fdiv k ∧ N.fdiv k < 1000000 := by
  rw [Int.fdiv_eq_ediv_of_nonneg _ (by lia)]
  have h1 := Int.ediv_nonneg h.1 (by lia : (0 : Int) ≤ k)
  have h2 := Int.ediv_le_self (k : Int) h.1
  lia
theorem erase_perm {l : List Nat} {i : Nat} (h : i < l.length) : (l[i] :: l.eraseIdx i).Perm l := by
  have e : l.take i ++ l[i] :: l.drop (i + 1) = l := by rw [List.getElem_cons_drop, List.take_append_drop]
  rw [List.eraseIdx_eq_take_drop_succ]
  exact List.perm_middle.symm.trans (.of_eq e)
theorem typ (P : Params) : ∀ (m : Nat) (ls : List Nat) (N : Int) (T : Str) (is : List Nat), ls.length = m → ls ∈ reach → (0 ≤ N ∧ N < 1000000) → Blks P T.cps.toList is → (is ++ ls).Perm [0, 1, 2, 3] → ∃ fin is', tyF (down m) (SL ls) N T fin ∧ Blks P fin.cps.toList is' ∧ is'.Perm [0, 1, 2, 3]
  | 0, ls, N, T, is, hm, _, _, hB, hp => ⟨T, is, rfl, hB, by rw [List.length_eq_zero_iff.mp hm, List.append_nil] at hp; exact hp⟩
  | m + 1, ls, N, T, is, hm, hr, hN, hB, hp => by
    have hl4 : ls.length ≤ 4 := of_decide_eq_true (List.all_eq_true.mp reachLen ls hr)
    have g1 := Int.fmod_nonneg_of_pos N (b := ((m + 1 : Nat) : Int)) (by lia)
    have g2 := Int.fmod_lt_of_pos N (b := ((m + 1 : Nat) : Int)) (by lia)
    obtain ⟨i, hi⟩ : ∃ i : Nat, N.fmod ((m + 1 : Nat) : Int) = i := ⟨(N.fmod ((m + 1 : Nat) : Int)).toNat, by lia⟩
    have hil : i < ls.length := by lia
    have t := List.all_eq_true.mp (List.all_eq_true.mp reachTab ls hr) i (List.mem_range.mpr hil)
    simp only [Bool.and_eq_true, decide_eq_true_eq] at t
    obtain ⟨⟨⟨t1, t2⟩, t3⟩, t4⟩ := t
    obtain ⟨k, hk, hk2, hk3, hk4⟩ := base_ok P (N.fdiv ((m + 1 : Nat) : Int)) t4
    obtain ⟨p, hp1, hp2⟩ := pad_ok (N.fdiv ((m + 1 : Nat) : Int))
    have hlen := hp.length_eq
    rw [List.length_append, show ([0, 1, 2, 3] : List Nat).length = 4 from rfl] at hlen
    have hBl := hB.len
    have hB' : Blks P (T ++ ((⟨#[k]⟩ : Str) ++ (⟨p.toArray⟩ : Str))).cps.toList (is ++ [ls.getD i 0]) := by
      have e : (T ++ ((⟨#[k]⟩ : Str) ++ (⟨p.toArray⟩ : Str))).cps.toList = T.cps.toList ++ (k :: p) := by
        show (T.cps ++ (#[k] ++ p.toArray)).toList = _
        simp
      rw [e]
      exact .snoc hB hk3 hk4 hp1
    have hgd : ls.getD i 0 = ls[i] := by rw [List.getD_eq_getElem?_getD, List.getElem?_eq_getElem hil]; rfl
    have hp' : (is ++ [ls.getD i 0] ++ ls.eraseIdx i).Perm [0, 1, 2, 3] := by
      rw [List.append_assoc, hgd]
      exact ((erase_perm hil).append_left is).trans hp
    obtain ⟨fin, is', r1, r2, r3⟩ := typ P m (ls.eraseIdx i) (N.fdiv ((m + 1 : Nat) : Int)) _ _ (by rw [List.length_eraseIdx_of_lt hil]; lia) t3 (fdiv_b (by lia) hN) hB' hp'
    refine ⟨fin, is', ?_, r2, r3⟩
    have hSL : (SL ls).length = ls.length := by show ((ls.map fun i => 97 + i).toArray).size = _; simp
    have hTl : T.length = T.cps.toList.length := by show T.cps.size = _; simp
    refine ⟨⟨by lia, by lia, hN.1, hN.2⟩, by lia, by lia, 97 + ls.getD i 0, SL (ls.eraseIdx i), ⟨g1, by rw [hSL]; lia⟩, by rw [hi]; exact t1, t2, by rw [hk]; lia, by rw [hk]; lia, ?_⟩
    rw [hk, hp2, Int.toNat_natCast]
    exact r1
theorem deal_ok (P : Params) (n : Int) (h0 : 0 ≤ n) (h1 : n < 1000000) : DealOk P n := by
  obtain ⟨fin, is, r1, r2, r3⟩ := typ P 4 [0, 1, 2, 3] n (Str.ofString "") [] rfl (by decide) ⟨h0, h1⟩ .nil (List.Perm.refl _)
  refine ⟨fin, gD, is, r1, r2.good, ?_, r2.finds, r3⟩
  have := r2.len
  have h4 := r3.length_eq
  rw [← Array.length_toList]
  simp only [List.length_cons, List.length_nil] at h4
  lia
end Mine
end
section
open PySem PySem.W PyProof.Rows
set_option maxRecDepth 100000
namespace Mine
set_option maxHeartbeats 0 in
theorem hd0 (h : ∀ (d : DefRec) (kwd : List (Str × Expr)), defOf viewQ lawRow.name = some (d, kwd) → WalkO viewQ looseQ (XL viewQ []) (Hook.says (kHook heapK heapA keysK)) (OpenRow.toRowW lawRow) d kwd fun f vs => PySem.call f vs) : PySem.Challenge.rw_tp0035_01.Holds := by
  w_on
  refine holds_law (by kernel_rfl) fun said => ?_
  refine holds_open (q := viewQ) (loose := looseQ) (Xt := XtQ) (XP := XL viewQ []) (Yf := Hook.obs (kHook heapK heapA keysK)) (Ya := Hook.val (kHook heapK heapA keysK)) (YP := Hook.says (kHook heapK heapA keysK)) (N := 28270) leftQ (Hook.of (kHook heapK heapA keysK)) (Hook.keeps (kHook heapK heapA keysK)) (fun s e => xl_of s (Bool.and_eq_true_iff.mp e).1) XL.keeps (by rfl) (by rfl) (by rfl) (fun s e => recFacts_of (Bool.and_eq_true_iff.mp e).2) (by rfl) (by first | assumption | decide +kernel) (by decide +kernel) ⟨rfl, rfl, rfl, rfl, rfl, by decide +kernel⟩ ?hw ?hc
  case hw => w_witness2
  case hc => exact h _ _ rfl
end Mine
end
theorem PySem.Challenge.cw_tp0035_01_holds : PySem.Challenge.rw_tp0035_01.Holds :=
  Mine.hd0 (Mine.law_walk (fun _ h => Mine.lamp_ok h) Mine.deal_ok)
