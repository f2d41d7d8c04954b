import PyProof.Rows.All
import Wide.All
import OpenK.AllK
import Wide.FinOn
import Open.Pieces
import OpenK.KQuick
import PyProof.GenObj
import Lean
import PySem.Challenge.RW_sh0048_01

section
open PySem PySem.W PyProof.Rows
set_option Elab.async false
set_option maxRecDepth 100000
namespace Mine
noncomputable abbrev PG : Program := Challenge.rw_sh0048_01.row.prog
noncomputable abbrev lo : List Str := [Str.ofString "b1_set", Str.ofString "b3_exceptions"]
noncomputable def nthS : List Stmt → Nat → Stmt
  | [], _ => .Pass default
  | x :: _, 0 => x
  | _ :: r, n + 1 => nthS r n
/-- the function object that the i-th statement of the top makes -/
noncomputable def fnO (i : Nat) (pm code : Value) : Obj := match nthS Challenge.pw_sh0048_01.main.body i with
  | .FunctionDef name args body _ _ _ scope _ _ _ => { cls := .type "function", dict := none, data := .func { name := name, qualname := name, params := args, body := .stmts body, scope := scope, globals := 3, closure := [], defaults := .none, kwdefaults := .none, pyModule := pm, code := code }, slots := #[] }
  | _ => default
noncomputable def b1Vals : List (Int × Nat) := [(65024, 229), (65025, 230), (65026, 231), (65027, 232), (65028, 233), (65029, 234), (6150, 215), (65030, 235), (65031, 236), (65032, 237), (65033, 238), (6155, 216), (6156, 217), (6157, 218), (8203, 219), (8204, 220), (8205, 221), (65034, 239), (65035, 240), (65036, 241), (65037, 242), (65038, 243), (65039, 244), (173, 213), (847, 214), (8288, 222), (65279, 223)]
/-- the set of table B.1 -/
noncomputable def b1O (led : Bool) : Obj := { cls := .type "set", dict := none, data := Data.set (b1Vals.map fun p => (hashInt p.1, Value.int p.1 p.2)).toArray 29 (SetTable.mk 127 #[0, 1, 2, 3, 4, 5, 6, 7, 8, 9, 10, 11, 12, 13, 14, 15, 16, 17, 18, 19, 20, 21, 22, 45, 79, 96, 127] #[] 0 led 2 true), slots := #[] }
noncomputable def b3Go : Nat → List (Option PySem.Expr) → List PySem.Expr → List DictEntry
  | t, some (.Constant (.int i) _ _) :: ks, .Constant (.str x) _ _ :: vs => ⟨hashInt i, .int i t, .str x (t + 1)⟩ :: b3Go (t + 3) ks vs
  | _, _, _ => []
noncomputable def b3End : Nat → List (Option PySem.Expr) → List PySem.Expr → List DictEntry
  | t, some (.Constant (.int i) _ _) :: ks, .Constant (.str x) _ _ :: vs => ⟨hashInt i, .int i t, .str x (t + 1)⟩ :: b3End (t + 2) ks vs
  | _, _, _ => []
/-- the entries of table B.3 -/
noncomputable def b3L : List DictEntry := match nthS Challenge.pw_sh0048_01.main.body 6 with
  | .Assign _ (.Dict ks vs _) _ => b3Go 280 (ks.take 646) (vs.take 646) ++ b3End 2218 (ks.drop 646) (vs.drop 646)
  | _ => []
noncomputable def b3O : Obj := { cls := .type "dict", dict := none, data := .dict b3L.toArray 650, slots := #[] }
noncomputable def k2 (_ : Params) : Obj := Obj.mk Value.none none (Data.dict #[]) #[]
noncomputable def k3 (P : Params) : Obj := Obj.mk (Value.type "dict") none
  (Data.dict
    #[DictEntry.mk (PyData.keyHash P (Str.ofString "__name__"))
        (Value.str (Str.ofString "__name__") 165)
        (Value.str (Str.ofString "law_sh0048_01") 2302),
      DictEntry.mk (PyData.keyHash P (Str.ofString "__doc__"))
        (Value.str (Str.ofString "__doc__") 166) Value.none,
      DictEntry.mk (PyData.keyHash P (Str.ofString "__package__"))
        (Value.str (Str.ofString "__package__") 167) Value.none,
      DictEntry.mk (PyData.keyHash P (Str.ofString "__loader__"))
        (Value.str (Str.ofString "__loader__") 168)
        (Value.builtin "__main__.__loader__#opaque"),
      DictEntry.mk (PyData.keyHash P (Str.ofString "__spec__"))
        (Value.str (Str.ofString "__spec__") 169) Value.none,
      DictEntry.mk (PyData.keyHash P (Str.ofString "__annotations__"))
        (Value.str (Str.ofString "__annotations__") 170) (Value.ref 6),
      DictEntry.mk (PyData.keyHash P (Str.ofString "__builtins__"))
        (Value.str (Str.ofString "__builtins__") 171) (Value.ref 4),
      DictEntry.mk (PyData.keyHash P (Str.ofString "__file__"))
        (Value.str (Str.ofString "__file__") 173)
        (Value.str (Str.ofString "/claim/cut.py") 172),
      DictEntry.mk (PyData.keyHash P (Str.ofString "__cached__"))
        (Value.str (Str.ofString "__cached__") 174) Value.none,
      DictEntry.mk (PyData.keyHash P (Str.ofString "_iter_escaped_chars"))
        (Value.str (Str.ofString "_iter_escaped_chars") 198)
        (Value.ref 21),
      DictEntry.mk (PyData.keyHash P (Str.ofString "_strip_quoted_realnames"))
        (Value.str (Str.ofString "_strip_quoted_realnames") 210)
        (Value.ref 28),
      DictEntry.mk (PyData.keyHash P (Str.ofString "b1_set"))
        (Value.str (Str.ofString "b1_set") 272) (Value.ref 36),
      DictEntry.mk (PyData.keyHash P (Str.ofString "in_table_b1"))
        (Value.str (Str.ofString "in_table_b1") 279) (Value.ref 46),
      DictEntry.mk (PyData.keyHash P (Str.ofString "b3_exceptions"))
        (Value.str (Str.ofString "b3_exceptions") 2230) (Value.ref 47),
      DictEntry.mk (PyData.keyHash P (Str.ofString "map_table_b3"))
        (Value.str (Str.ofString "map_table_b3") 2238) (Value.ref 92),
      DictEntry.mk (PyData.keyHash P (Str.ofString "ENDMARKER"))
        (Value.str (Str.ofString "ENDMARKER") 2242)
        (Value.int 0 2241),
      DictEntry.mk (PyData.keyHash P (Str.ofString "NT_OFFSET"))
        (Value.str (Str.ofString "NT_OFFSET") 2244)
        (Value.int 256 2243),
      DictEntry.mk (PyData.keyHash P (Str.ofString "ISTERMINAL"))
        (Value.str (Str.ofString "ISTERMINAL") 2251) (Value.ref 99),
      DictEntry.mk (PyData.keyHash P (Str.ofString "ISNONTERMINAL"))
        (Value.str (Str.ofString "ISNONTERMINAL") 2258) (Value.ref 106),
      DictEntry.mk (PyData.keyHash P (Str.ofString "ISEOF"))
        (Value.str (Str.ofString "ISEOF") 2265) (Value.ref 113),
      DictEntry.mk (PyData.keyHash P (Str.ofString "_MAX_STRING_SIZE"))
        (Value.str (Str.ofString "_MAX_STRING_SIZE") 2269)
        (Value.int 40 2268),
      DictEntry.mk (PyData.keyHash P (Str.ofString "_MOVE_COST"))
        (Value.str (Str.ofString "_MOVE_COST") 2271)
        (Value.int 2 2270),
      DictEntry.mk (PyData.keyHash P (Str.ofString "_CASE_COST"))
        (Value.str (Str.ofString "_CASE_COST") 2273)
        (Value.int 1 2272),
      DictEntry.mk (PyData.keyHash P (Str.ofString "_substitution_cost"))
        (Value.str (Str.ofString "_substitution_cost") 2281)
        (Value.ref 120),
      DictEntry.mk (PyData.keyHash P (Str.ofString "_levenshtein_distance"))
        (Value.str (Str.ofString "_levenshtein_distance") 2301)
        (Value.ref 127),
      DictEntry.mk (PyData.keyHash P (Str.ofString "_law_drawn"))
        (Value.str (Str.ofString "_law_drawn") 2312) (Value.ref 134),
      DictEntry.mk (PyData.keyHash P (Str.ofString "_law_folded"))
        (Value.str (Str.ofString "_law_folded") 2322) (Value.ref 141),
      DictEntry.mk (PyData.keyHash P (Str.ofString "_law_piece"))
        (Value.str (Str.ofString "_law_piece") 2328) (Value.ref 146),
      DictEntry.mk (PyData.keyHash P (Str.ofString "_law_told"))
        (Value.str (Str.ofString "_law_told") 2334) (Value.ref 151),
      DictEntry.mk (PyData.keyHash P (Str.ofString "_law_due"))
        (Value.str (Str.ofString "_law_due") 2340) (Value.ref 156),
      DictEntry.mk (PyData.keyHash P (Str.ofString "_law_open"))
        (Value.str (Str.ofString "_law_open") 2346) (Value.ref 161),
      DictEntry.mk (PyData.keyHash P (Str.ofString "_law_changed"))
        (Value.str (Str.ofString "_law_changed") 2354) (Value.ref 168),
      DictEntry.mk (PyData.keyHash P (Str.ofString "_law_free"))
        (Value.str (Str.ofString "_law_free") 2360) (Value.ref 173),
      DictEntry.mk (PyData.keyHash P (Str.ofString "law"))
        (Value.str (Str.ofString "law") 2366) (Value.ref 178)]
    34)
  #[]
noncomputable def k6 (_ : Params) : Obj := Obj.mk (Value.type "dict") none (Data.dict #[]) #[]
noncomputable def k15 (_ : Params) : Obj := Obj.mk (Value.type "tuple") none (Data.seq #[]) #[]
noncomputable def k17 (_ : Params) : Obj := Obj.mk (Value.type "tuple") none
  (Data.seq
    #[Value.str (Str.ofString "addr") 192,
      Value.str (Str.ofString "pos") 193,
      Value.str (Str.ofString "escape") 194,
      Value.str (Str.ofString "ch") 195])
  #[]
noncomputable def k18 (_ : Params) : Obj := Obj.mk (Value.type "tuple") none (Data.seq #[]) #[]
noncomputable def k20 (_ : Params) : Obj := Obj.mk (Value.type "code") none
  (Data.fields
    #[Value.str (Str.ofString "_iter_escaped_chars") 189,
      Value.str (Str.ofString "_iter_escaped_chars") 190,
      Value.str (Str.ofString "/claim/cut.py") 191,
      Value.int 2 0, Value.int 1 0,
      Value.int 0 0, Value.int 0 0,
      Value.int 35 0, Value.ref 15, Value.bool Bool.true,
      Value.int 181 0, Value.ref 16, Value.none,
      Value.ref 17, Value.ref 18, Value.ref 19,
      Value.int 196 0, Value.int 2 0,
      Value.str (Str.ofString "/claim/cut.py") 197])
  #[]
noncomputable def k22 (_ : Params) : Obj := Obj.mk (Value.type "tuple") none (Data.seq #[]) #[]
noncomputable def k24 (_ : Params) : Obj := Obj.mk (Value.type "tuple") none
  (Data.seq
    #[Value.str (Str.ofString "addr") 202,
      Value.str (Str.ofString "start") 203,
      Value.str (Str.ofString "open_pos") 204,
      Value.str (Str.ofString "result") 205,
      Value.str (Str.ofString "pos") 206,
      Value.str (Str.ofString "ch") 207])
  #[]
noncomputable def k25 (_ : Params) : Obj := Obj.mk (Value.type "tuple") none (Data.seq #[]) #[]
noncomputable def k27 (_ : Params) : Obj := Obj.mk (Value.type "code") none
  (Data.fields
    #[Value.str (Str.ofString "_strip_quoted_realnames") 199,
      Value.str (Str.ofString "_strip_quoted_realnames") 200,
      Value.str (Str.ofString "/claim/cut.py") 201,
      Value.int 15 0, Value.int 1 0,
      Value.int 0 0, Value.int 0 0,
      Value.int 3 0, Value.ref 22, Value.bool Bool.true,
      Value.int 181 0, Value.ref 23, Value.none,
      Value.ref 24, Value.ref 25, Value.ref 26,
      Value.int 208 0, Value.int 15 0,
      Value.str (Str.ofString "/claim/cut.py") 209])
  #[]
noncomputable def k40 (_ : Params) : Obj := Obj.mk (Value.type "tuple") none (Data.seq #[]) #[]
noncomputable def k42 (_ : Params) : Obj := Obj.mk (Value.type "tuple") none
  (Data.seq #[Value.str (Str.ofString "code") 276]) #[]
noncomputable def k43 (_ : Params) : Obj := Obj.mk (Value.type "tuple") none (Data.seq #[]) #[]
noncomputable def k45 (_ : Params) : Obj := Obj.mk (Value.type "code") none
  (Data.fields
    #[Value.str (Str.ofString "in_table_b1") 273,
      Value.str (Str.ofString "in_table_b1") 274,
      Value.str (Str.ofString "/claim/cut.py") 275,
      Value.int 35 0, Value.int 1 0,
      Value.int 0 0, Value.int 0 0,
      Value.int 3 0, Value.ref 40, Value.bool Bool.true,
      Value.int 181 0, Value.ref 41, Value.none,
      Value.ref 42, Value.ref 43, Value.ref 44,
      Value.int 277 0, Value.int 35 0,
      Value.str (Str.ofString "/claim/cut.py") 278])
  #[]
noncomputable def k86 (_ : Params) : Obj := Obj.mk (Value.type "tuple") none (Data.seq #[]) #[]
noncomputable def k88 (_ : Params) : Obj := Obj.mk (Value.type "tuple") none
  (Data.seq
    #[Value.str (Str.ofString "code") 2234,
      Value.str (Str.ofString "r") 2235])
  #[]
noncomputable def k89 (_ : Params) : Obj := Obj.mk (Value.type "tuple") none (Data.seq #[]) #[]
noncomputable def k91 (_ : Params) : Obj := Obj.mk (Value.type "code") none
  (Data.fields
    #[Value.str (Str.ofString "map_table_b3") 2231,
      Value.str (Str.ofString "map_table_b3") 2232,
      Value.str (Str.ofString "/claim/cut.py") 2233,
      Value.int 38 0, Value.int 1 0,
      Value.int 0 0, Value.int 0 0,
      Value.int 3 0, Value.ref 86, Value.bool Bool.true,
      Value.int 181 0, Value.ref 87, Value.none,
      Value.ref 88, Value.ref 89, Value.ref 90,
      Value.int 2236 0, Value.int 38 0,
      Value.str (Str.ofString "/claim/cut.py") 2237])
  #[]
noncomputable def k93 (_ : Params) : Obj := Obj.mk (Value.type "tuple") none (Data.seq #[]) #[]
noncomputable def k95 (_ : Params) : Obj := Obj.mk (Value.type "tuple") none
  (Data.seq #[Value.str (Str.ofString "x") 2248]) #[]
noncomputable def k96 (_ : Params) : Obj := Obj.mk (Value.type "tuple") none (Data.seq #[]) #[]
noncomputable def k98 (_ : Params) : Obj := Obj.mk (Value.type "code") none
  (Data.fields
    #[Value.str (Str.ofString "ISTERMINAL") 2245,
      Value.str (Str.ofString "ISTERMINAL") 2246,
      Value.str (Str.ofString "/claim/cut.py") 2247,
      Value.int 46 0, Value.int 1 0,
      Value.int 0 0, Value.int 0 0,
      Value.int 3 0, Value.ref 93, Value.bool Bool.true,
      Value.int 181 0, Value.ref 94, Value.none,
      Value.ref 95, Value.ref 96, Value.ref 97,
      Value.int 2249 0, Value.int 46 0,
      Value.str (Str.ofString "/claim/cut.py") 2250])
  #[]
noncomputable def k100 (_ : Params) : Obj := Obj.mk (Value.type "tuple") none (Data.seq #[]) #[]
noncomputable def k102 (_ : Params) : Obj := Obj.mk (Value.type "tuple") none
  (Data.seq #[Value.str (Str.ofString "x") 2255]) #[]
noncomputable def k103 (_ : Params) : Obj := Obj.mk (Value.type "tuple") none (Data.seq #[]) #[]
noncomputable def k105 (_ : Params) : Obj := Obj.mk (Value.type "code") none
  (Data.fields
    #[Value.str (Str.ofString "ISNONTERMINAL") 2252,
      Value.str (Str.ofString "ISNONTERMINAL") 2253,
      Value.str (Str.ofString "/claim/cut.py") 2254,
      Value.int 48 0, Value.int 1 0,
      Value.int 0 0, Value.int 0 0,
      Value.int 3 0, Value.ref 100, Value.bool Bool.true,
      Value.int 181 0, Value.ref 101, Value.none,
      Value.ref 102, Value.ref 103, Value.ref 104,
      Value.int 2256 0, Value.int 48 0,
      Value.str (Str.ofString "/claim/cut.py") 2257])
  #[]
noncomputable def k107 (_ : Params) : Obj := Obj.mk (Value.type "tuple") none (Data.seq #[]) #[]
noncomputable def k109 (_ : Params) : Obj := Obj.mk (Value.type "tuple") none
  (Data.seq #[Value.str (Str.ofString "x") 2262]) #[]
noncomputable def k110 (_ : Params) : Obj := Obj.mk (Value.type "tuple") none (Data.seq #[]) #[]
noncomputable def k112 (_ : Params) : Obj := Obj.mk (Value.type "code") none
  (Data.fields
    #[Value.str (Str.ofString "ISEOF") 2259,
      Value.str (Str.ofString "ISEOF") 2260,
      Value.str (Str.ofString "/claim/cut.py") 2261,
      Value.int 50 0, Value.int 1 0,
      Value.int 0 0, Value.int 0 0,
      Value.int 3 0, Value.ref 107, Value.bool Bool.true,
      Value.int 181 0, Value.ref 108, Value.none,
      Value.ref 109, Value.ref 110, Value.ref 111,
      Value.int 2263 0, Value.int 50 0,
      Value.str (Str.ofString "/claim/cut.py") 2264])
  #[]
noncomputable def k114 (_ : Params) : Obj := Obj.mk (Value.type "tuple") none (Data.seq #[]) #[]
noncomputable def k116 (_ : Params) : Obj := Obj.mk (Value.type "tuple") none
  (Data.seq
    #[Value.str (Str.ofString "ch_a") 2277,
      Value.str (Str.ofString "ch_b") 2278])
  #[]
noncomputable def k117 (_ : Params) : Obj := Obj.mk (Value.type "tuple") none (Data.seq #[]) #[]
noncomputable def k119 (_ : Params) : Obj := Obj.mk (Value.type "code") none
  (Data.fields
    #[Value.str (Str.ofString "_substitution_cost") 2274,
      Value.str (Str.ofString "_substitution_cost") 2275,
      Value.str (Str.ofString "/claim/cut.py") 2276,
      Value.int 56 0, Value.int 2 0,
      Value.int 0 0, Value.int 0 0,
      Value.int 3 0, Value.ref 114, Value.bool Bool.true,
      Value.int 181 0, Value.ref 115, Value.none,
      Value.ref 116, Value.ref 117, Value.ref 118,
      Value.int 2279 0, Value.int 56 0,
      Value.str (Str.ofString "/claim/cut.py") 2280])
  #[]
noncomputable def k121 (_ : Params) : Obj := Obj.mk (Value.type "tuple") none (Data.seq #[]) #[]
noncomputable def k123 (_ : Params) : Obj := Obj.mk (Value.type "tuple") none
  (Data.seq
    #[Value.str (Str.ofString "a") 2285,
      Value.str (Str.ofString "b") 2286,
      Value.str (Str.ofString "max_cost") 2287,
      Value.str (Str.ofString "pre") 2288,
      Value.str (Str.ofString "post") 2289,
      Value.str (Str.ofString "row") 2290,
      Value.str (Str.ofString "result") 2291,
      Value.str (Str.ofString "bindex") 2292,
      Value.str (Str.ofString "bchar") 2293,
      Value.str (Str.ofString "distance") 2294,
      Value.str (Str.ofString "minimum") 2295,
      Value.str (Str.ofString "index") 2296,
      Value.str (Str.ofString "substitute") 2297,
      Value.str (Str.ofString "insert_delete") 2298])
  #[]
noncomputable def k124 (_ : Params) : Obj := Obj.mk (Value.type "tuple") none (Data.seq #[]) #[]
noncomputable def k126 (_ : Params) : Obj := Obj.mk (Value.type "code") none
  (Data.fields
    #[Value.str (Str.ofString "_levenshtein_distance") 2282,
      Value.str (Str.ofString "_levenshtein_distance") 2283,
      Value.str (Str.ofString "/claim/cut.py") 2284,
      Value.int 62 0, Value.int 3 0,
      Value.int 0 0, Value.int 0 0,
      Value.int 3 0, Value.ref 121, Value.bool Bool.true,
      Value.int 181 0, Value.ref 122, Value.none,
      Value.ref 123, Value.ref 124, Value.ref 125,
      Value.int 2299 0, Value.int 62 0,
      Value.str (Str.ofString "/claim/cut.py") 2300])
  #[]
noncomputable def k128 (_ : Params) : Obj := Obj.mk (Value.type "tuple") none (Data.seq #[]) #[]
noncomputable def k130 (_ : Params) : Obj := Obj.mk (Value.type "tuple") none
  (Data.seq
    #[Value.str (Str.ofString "script") 2307,
      Value.str (Str.ofString "drawn") 2308,
      Value.str (Str.ofString "k") 2309])
  #[]
noncomputable def k131 (_ : Params) : Obj := Obj.mk (Value.type "tuple") none (Data.seq #[]) #[]
noncomputable def k133 (_ : Params) : Obj := Obj.mk (Value.type "code") none
  (Data.fields
    #[Value.str (Str.ofString "_law_drawn") 2304,
      Value.str (Str.ofString "_law_drawn") 2305,
      Value.str (Str.ofString "/claim/cut.py") 2306,
      Value.int 101 0, Value.int 1 0,
      Value.int 0 0, Value.int 0 0,
      Value.int 3 0, Value.ref 128, Value.bool Bool.true,
      Value.int 181 0, Value.ref 129, Value.none,
      Value.ref 130, Value.ref 131, Value.ref 132,
      Value.int 2310 0, Value.int 101 0,
      Value.str (Str.ofString "/claim/cut.py") 2311])
  #[]
noncomputable def k135 (_ : Params) : Obj := Obj.mk (Value.type "tuple") none (Data.seq #[]) #[]
noncomputable def k137 (_ : Params) : Obj := Obj.mk (Value.type "tuple") none
  (Data.seq
    #[Value.str (Str.ofString "moves") 2316,
      Value.str (Str.ofString "x") 2317,
      Value.str (Str.ofString "rings") 2318,
      Value.str (Str.ofString "k") 2319])
  #[]
noncomputable def k138 (_ : Params) : Obj := Obj.mk (Value.type "tuple") none (Data.seq #[]) #[]
noncomputable def k140 (_ : Params) : Obj := Obj.mk (Value.type "code") none
  (Data.fields
    #[Value.str (Str.ofString "_law_folded") 2313,
      Value.str (Str.ofString "_law_folded") 2314,
      Value.str (Str.ofString "/claim/cut.py") 2315,
      Value.int 106 0, Value.int 1 0,
      Value.int 0 0, Value.int 0 0,
      Value.int 3 0, Value.ref 135, Value.bool Bool.true,
      Value.int 181 0, Value.ref 136, Value.none,
      Value.ref 137, Value.ref 138, Value.ref 139,
      Value.int 2320 0, Value.int 106 0,
      Value.str (Str.ofString "/claim/cut.py") 2321])
  #[]
noncomputable def k142 (_ : Params) : Obj := Obj.mk (Value.type "tuple") none (Data.seq #[]) #[]
noncomputable def k145 (_ : Params) : Obj := Obj.mk (Value.type "code") none
  (Data.fields
    #[Value.str (Str.ofString "_law_piece") 2323,
      Value.str (Str.ofString "_law_piece") 2324,
      Value.str (Str.ofString "/claim/cut.py") 2325,
      Value.int 113 0, Value.int 3 0,
      Value.int 0 0, Value.int 0 0,
      Value.int 3 0, Value.ref 142, Value.bool Bool.true,
      Value.int 181 0, Value.ref 143, Value.none,
      Value.none, Value.none, Value.ref 144,
      Value.int 2326 0, Value.int 113 0,
      Value.str (Str.ofString "/claim/cut.py") 2327])
  #[]
noncomputable def k147 (_ : Params) : Obj := Obj.mk (Value.type "tuple") none (Data.seq #[]) #[]
noncomputable def k150 (_ : Params) : Obj := Obj.mk (Value.type "code") none
  (Data.fields
    #[Value.str (Str.ofString "_law_told") 2329,
      Value.str (Str.ofString "_law_told") 2330,
      Value.str (Str.ofString "/claim/cut.py") 2331,
      Value.int 120 0, Value.int 3 0,
      Value.int 0 0, Value.int 0 0,
      Value.int 3 0, Value.ref 147, Value.bool Bool.true,
      Value.int 181 0, Value.ref 148, Value.none,
      Value.none, Value.none, Value.ref 149,
      Value.int 2332 0, Value.int 120 0,
      Value.str (Str.ofString "/claim/cut.py") 2333])
  #[]
noncomputable def k152 (_ : Params) : Obj := Obj.mk (Value.type "tuple") none (Data.seq #[]) #[]
noncomputable def k155 (_ : Params) : Obj := Obj.mk (Value.type "code") none
  (Data.fields
    #[Value.str (Str.ofString "_law_due") 2335,
      Value.str (Str.ofString "_law_due") 2336,
      Value.str (Str.ofString "/claim/cut.py") 2337,
      Value.int 123 0, Value.int 2 0,
      Value.int 0 0, Value.int 0 0,
      Value.int 3 0, Value.ref 152, Value.bool Bool.true,
      Value.int 181 0, Value.ref 153, Value.none,
      Value.none, Value.none, Value.ref 154,
      Value.int 2338 0, Value.int 123 0,
      Value.str (Str.ofString "/claim/cut.py") 2339])
  #[]
noncomputable def k157 (_ : Params) : Obj := Obj.mk (Value.type "tuple") none (Data.seq #[]) #[]
noncomputable def k160 (_ : Params) : Obj := Obj.mk (Value.type "code") none
  (Data.fields
    #[Value.str (Str.ofString "_law_open") 2341,
      Value.str (Str.ofString "_law_open") 2342,
      Value.str (Str.ofString "/claim/cut.py") 2343,
      Value.int 125 0, Value.int 3 0,
      Value.int 0 0, Value.int 0 0,
      Value.int 3 0, Value.ref 157, Value.bool Bool.true,
      Value.int 181 0, Value.ref 158, Value.none,
      Value.none, Value.none, Value.ref 159,
      Value.int 2344 0, Value.int 125 0,
      Value.str (Str.ofString "/claim/cut.py") 2345])
  #[]
noncomputable def k162 (_ : Params) : Obj := Obj.mk (Value.type "tuple") none (Data.seq #[]) #[]
noncomputable def k164 (_ : Params) : Obj := Obj.mk (Value.type "tuple") none
  (Data.seq
    #[Value.str (Str.ofString "rings") 2350,
      Value.str (Str.ofString "k") 2351])
  #[]
noncomputable def k165 (_ : Params) : Obj := Obj.mk (Value.type "tuple") none (Data.seq #[]) #[]
noncomputable def k167 (_ : Params) : Obj := Obj.mk (Value.type "code") none
  (Data.fields
    #[Value.str (Str.ofString "_law_changed") 2347,
      Value.str (Str.ofString "_law_changed") 2348,
      Value.str (Str.ofString "/claim/cut.py") 2349,
      Value.int 129 0, Value.int 2 0,
      Value.int 0 0, Value.int 0 0,
      Value.int 3 0, Value.ref 162, Value.bool Bool.true,
      Value.int 181 0, Value.ref 163, Value.none,
      Value.ref 164, Value.ref 165, Value.ref 166,
      Value.int 2352 0, Value.int 129 0,
      Value.str (Str.ofString "/claim/cut.py") 2353])
  #[]
noncomputable def k169 (_ : Params) : Obj := Obj.mk (Value.type "tuple") none (Data.seq #[]) #[]
noncomputable def k172 (_ : Params) : Obj := Obj.mk (Value.type "code") none
  (Data.fields
    #[Value.str (Str.ofString "_law_free") 2355,
      Value.str (Str.ofString "_law_free") 2356,
      Value.str (Str.ofString "/claim/cut.py") 2357,
      Value.int 131 0, Value.int 1 0,
      Value.int 0 0, Value.int 0 0,
      Value.int 3 0, Value.ref 169, Value.bool Bool.true,
      Value.int 181 0, Value.ref 170, Value.none,
      Value.none, Value.none, Value.ref 171,
      Value.int 2358 0, Value.int 131 0,
      Value.str (Str.ofString "/claim/cut.py") 2359])
  #[]
noncomputable def k174 (_ : Params) : Obj := Obj.mk (Value.type "tuple") none (Data.seq #[]) #[]
noncomputable def k177 (_ : Params) : Obj := Obj.mk (Value.type "code") none
  (Data.fields
    #[Value.str (Str.ofString "law") 2361,
      Value.str (Str.ofString "law") 2362,
      Value.str (Str.ofString "/claim/cut.py") 2363,
      Value.int 133 0, Value.int 1 0,
      Value.int 0 0, Value.int 0 0,
      Value.int 3 0, Value.ref 174, Value.bool Bool.true,
      Value.int 181 0, Value.ref 175, Value.none,
      Value.none, Value.none, Value.ref 176,
      Value.int 2364 0, Value.int 133 0,
      Value.str (Str.ofString "/claim/cut.py") 2365])
  #[]
noncomputable def KF (P : Params) : Frag :=
  (nat_lit 2, k2 P) ::
  (nat_lit 3, k3 P) ::
  (nat_lit 6, k6 P) ::
  (nat_lit 15, k15 P) ::
  (nat_lit 17, k17 P) ::
  (nat_lit 18, k18 P) ::
  (nat_lit 20, k20 P) ::
  (nat_lit 21, fnO 1 (Value.str (Str.ofString "cpy313.email.utils") 187) (Value.ref 20)) ::
  (nat_lit 22, k22 P) ::
  (nat_lit 24, k24 P) ::
  (nat_lit 25, k25 P) ::
  (nat_lit 27, k27 P) ::
  (nat_lit 28, fnO 2 (Value.str (Str.ofString "cpy313.email.utils") 187) (Value.ref 27)) ::
  (nat_lit 36, b1O (!P.followText "set-order")) ::
  (nat_lit 40, k40 P) ::
  (nat_lit 42, k42 P) ::
  (nat_lit 43, k43 P) ::
  (nat_lit 45, k45 P) ::
  (nat_lit 46, fnO 5 (Value.str (Str.ofString "cpy313.stringprep") 211) (Value.ref 45)) ::
  (nat_lit 47, b3O) ::
  (nat_lit 86, k86 P) ::
  (nat_lit 88, k88 P) ::
  (nat_lit 89, k89 P) ::
  (nat_lit 91, k91 P) ::
  (nat_lit 92, fnO 7 (Value.str (Str.ofString "cpy313.stringprep") 211) (Value.ref 91)) ::
  (nat_lit 93, k93 P) ::
  (nat_lit 95, k95 P) ::
  (nat_lit 96, k96 P) ::
  (nat_lit 98, k98 P) ::
  (nat_lit 99, fnO 11 (Value.str (Str.ofString "cpy313.token") 2239) (Value.ref 98)) ::
  (nat_lit 100, k100 P) ::
  (nat_lit 102, k102 P) ::
  (nat_lit 103, k103 P) ::
  (nat_lit 105, k105 P) ::
  (nat_lit 106, fnO 12 (Value.str (Str.ofString "cpy313.token") 2239) (Value.ref 105)) ::
  (nat_lit 107, k107 P) ::
  (nat_lit 109, k109 P) ::
  (nat_lit 110, k110 P) ::
  (nat_lit 112, k112 P) ::
  (nat_lit 113, fnO 13 (Value.str (Str.ofString "cpy313.token") 2239) (Value.ref 112)) ::
  (nat_lit 114, k114 P) ::
  (nat_lit 116, k116 P) ::
  (nat_lit 117, k117 P) ::
  (nat_lit 119, k119 P) ::
  (nat_lit 120, fnO 18 (Value.str (Str.ofString "cpy313.traceback") 2266) (Value.ref 119)) ::
  (nat_lit 121, k121 P) ::
  (nat_lit 123, k123 P) ::
  (nat_lit 124, k124 P) ::
  (nat_lit 126, k126 P) ::
  (nat_lit 127, fnO 19 (Value.str (Str.ofString "cpy313.traceback") 2266) (Value.ref 126)) ::
  (nat_lit 128, k128 P) ::
  (nat_lit 130, k130 P) ::
  (nat_lit 131, k131 P) ::
  (nat_lit 133, k133 P) ::
  (nat_lit 134, fnO 21 (Value.str (Str.ofString "law_sh0048_01") 2302) (Value.ref 133)) ::
  (nat_lit 135, k135 P) ::
  (nat_lit 137, k137 P) ::
  (nat_lit 138, k138 P) ::
  (nat_lit 140, k140 P) ::
  (nat_lit 141, fnO 22 (Value.str (Str.ofString "law_sh0048_01") 2302) (Value.ref 140)) ::
  (nat_lit 142, k142 P) ::
  (nat_lit 145, k145 P) ::
  (nat_lit 146, fnO 23 (Value.str (Str.ofString "law_sh0048_01") 2302) (Value.ref 145)) ::
  (nat_lit 147, k147 P) ::
  (nat_lit 150, k150 P) ::
  (nat_lit 151, fnO 24 (Value.str (Str.ofString "law_sh0048_01") 2302) (Value.ref 150)) ::
  (nat_lit 152, k152 P) ::
  (nat_lit 155, k155 P) ::
  (nat_lit 156, fnO 25 (Value.str (Str.ofString "law_sh0048_01") 2302) (Value.ref 155)) ::
  (nat_lit 157, k157 P) ::
  (nat_lit 160, k160 P) ::
  (nat_lit 161, fnO 26 (Value.str (Str.ofString "law_sh0048_01") 2302) (Value.ref 160)) ::
  (nat_lit 162, k162 P) ::
  (nat_lit 164, k164 P) ::
  (nat_lit 165, k165 P) ::
  (nat_lit 167, k167 P) ::
  (nat_lit 168, fnO 27 (Value.str (Str.ofString "law_sh0048_01") 2302) (Value.ref 167)) ::
  (nat_lit 169, k169 P) ::
  (nat_lit 172, k172 P) ::
  (nat_lit 173, fnO 28 (Value.str (Str.ofString "law_sh0048_01") 2302) (Value.ref 172)) ::
  (nat_lit 174, k174 P) ::
  (nat_lit 177, k177 P) ::
  (nat_lit 178, fnO 29 (Value.str (Str.ofString "law_sh0048_01") 2302) (Value.ref 177)) ::
  []
noncomputable def VW : Program := view Challenge.pw_sh0048_01 [1, 2, 5, 7, 9, 10, 11, 12, 13, 15, 16, 17, 18, 19, 21, 22, 23, 24, 25, 26, 27, 28, 29]
/-- a call of the text's def at f, from any frame -/
noncomputable abbrev Ctr (w : World) (kd ku : Nat) (f : Addr) (vs : List Value) (news : List (Addr × Obj)) (R : Heap → Addr → (Str → Option Value) → Shared → (Value → Shared → Prop) → Prop) : Prop :=
  ∀ (mean : ExcName → Option Value) (mg mb : Str → Option Value) (dp un : Nat) (gd : Option (List Code)) (cn : Str) (cs : Scope) (a : Addr) (ccd : Value) (cl : List (Str × Addr)) (outer : List Env) (A₀ : Around) (base h₀ : Heap) (L : Addr) (m : Str → Option Value) (s : Shared) (Q E : Value → Shared → Prop),
    Below A₀ base outer h₀ → Fr h₀ L s.heap m → (KF w.params).In h₀ → News h₀ L s.heap news → Top VW (looseW VW lo) mean mg mb h₀ → cs.kind = .function → 
    dp + kd < recursionLimit → un + ku < cLine → R h₀ L m s Q →
    wpAny (model PG w) (ktrTop dp un gd cn cs L a ccd cl outer) (call (.ref f) vs) Q E s
theorem use_ctr {w : World} {kd ku : Nat} {f : Addr} {vs : List Value} {news : List (Addr × Obj)} {R : Heap → Addr → (Str → Option Value) → Shared → (Value → Shared → Prop) → Prop} (C : Ctr w kd ku f vs news R)
   {mean : ExcName → Option Value} {mg mb : Str → Option Value} {dp un : Nat} {gd : Option (List Code)} {cn : Str} {cs : Scope} {a : Addr} {ccd : Value} {cl : List (Str × Addr)} {outer : List Env} {A₀ : Around} {base h₀ : Heap} {L : Addr} {m : Str → Option Value} {s : Shared} {Q E : Value → Shared → Prop}
    (B : Below A₀ base outer h₀) (F : Fr h₀ L s.heap m) (X : (KF w.params).In h₀) (N : News h₀ L s.heap news) (T : Top VW (looseW VW lo) mean mg mb h₀) (hk : cs.kind = .function) 
    (hd : dp + kd < recursionLimit) (hu : un + ku < cLine) (hR : R h₀ L m s Q) :
    wpAny (model PG w) (ktrTop dp un gd cn cs L a ccd cl outer) (call (.ref f) vs) Q E s := C _ _ _ _ _ _ _ _ _ _ _ _ _ _ _ _ _ _ _ _ B F X N T hk hd hu hR
theorem news_cons {h₀ h : Heap} {L : Addr} {news : List (Addr × Obj)} {p : Addr × Obj} (N : News h₀ L h news) (hm : p ∈ news) : News h₀ L h (p :: news) := fun q hq => by
  rcases List.mem_cons.mp hq with rfl | hq
  · exact N _ hm
  · exact N _ hq
theorem news_tail {h₀ h : Heap} {L : Addr} {news : List (Addr × Obj)} {p : Addr × Obj} (N : News h₀ L h (p :: news)) : News h₀ L h news := fun q hq => N q (.tail _ hq)
theorem news_drop2 {h₀ h : Heap} {L : Addr} {news : List (Addr × Obj)} {p q : Addr × Obj} (N : News h₀ L h (q :: p :: news)) : News h₀ L h (q :: news) := fun r hr => by
  rcases List.mem_cons.mp hr with rfl | hr
  · exact N _ (.head _)
  · exact N r (.tail _ (.tail _ hr))
noncomputable abbrev RetVal (v : Tok → Value) (news : List (Addr × Obj)) (h₀ : Heap) (L : Addr) (m : Str → Option Value) (s : Shared) (Q : Value → Shared → Prop) : Prop :=
  ∀ t h' tk', Fr h₀ L h' m → News h₀ L h' news → Q (v t) { s with heap := h', toks := tk' }
noncomputable abbrev RetInts (ns : List Int) (news : List (Addr × Obj)) (h₀ : Heap) (L : Addr) (m : Str → Option Value) (s : Shared) (Q : Value → Shared → Prop) : Prop :=
  ∀ l us n h' tk', Fr h₀ L h' m → News h₀ L h' ((l, listOf (List.toArray us) n) :: news) → (∀ p ∈ news, p.1 ≠ l) → IntsAre us ns → Q (.ref l) { s with heap := h', toks := tk' }
noncomputable abbrev RetNew (o : Nat → Obj) (news : List (Addr × Obj)) (h₀ : Heap) (L : Addr) (m : Str → Option Value) (s : Shared) (Q : Value → Shared → Prop) : Prop :=
  ∀ l n h' tk', Fr h₀ L h' m → News h₀ L h' ((l, o n) :: news) → (∀ p ∈ news, p.1 ≠ l) → Q (.ref l) { s with heap := h', toks := tk' }
end Mine

namespace Mine
open PySem.Spec PySem.Calls
/-- what a callee's base heap keeps of the caller's ledger, beside the entries handed to it -/
noncomputable def Kept (g : Heap) (as : List Addr) (more : List (Addr × Obj)) : Prop := ∀ p ∈ more, p.1 ∉ as → g.get? p.1 = some p.2
section
variable {prog : Program} {w : World} {A₀ A : Around} {s : Shared} {base h₀ : Heap} {outer : List Env} {L : Addr} {m mg mb : Str → Option Value} {env : Env} {news more : List (Addr × Obj)} {K : Frag} {p : Program} {loose : List Str} {mean : ExcName → Option Value}
  {R : Result → Shared → Prop} {name qual : Str} {params : Arguments} {body : List Stmt} {scope : Scope} {dV kV doc pm cdv ct oc : Value} {an od : Option Addr} {osl : Array (Option Value)} {f : Addr} {args : Args} {binds : List (Str × Value)}
theorem kept_hide (hM : News h₀ L s.heap more) : Kept (hideAll s.heap (news.map (·.1))) (news.map (·.1)) more := fun q hq hn => hideAll_get _ (hM q hq).1 hn
theorem enterM (B : Below A₀ base outer h₀) (F : Fr h₀ L s.heap m) (X₀ : K.In h₀) (hM : News h₀ L s.heap more) (N : News h₀ L s.heap news) (T : Top p loose mean mg mb h₀) (hA : A.frames = some (env :: outer)) (hf : env.frame = some L) (hke : env.scope.kind = .function)
    (ho : K.lookup f = some ⟨oc, od, .func (fnOf name qual params body scope dV kV doc pm an cdv ct), osl⟩) (hcd : codeIn K cdv qual = true) (hroom : A.depth < recursionLimit)
    (hbind : BindsTo s (fnOf name qual params body scope dV kV doc pm an cdv ct) args binds) (hloc : ∀ y ∈ binds, scope.names.lookup y.1 = some .local)
    (h : ∀ g L' h₁, Kept g (news.map (·.1)) more → Fr h₀ L g m → Fr g L' h₁ (fun y => binds.reverse.lookup y) → News g L' h₁ news → Below A base (env :: outer) g → K.In g → Top p loose mean mg mb g → (∀ q ∈ news, q.1 < L') →
      wpAny (model prog w) (A.deeper (envOf qual scope L' f cdv)) (execs body (envOf qual scope L' f cdv))
        (fun fl s' => LeaveK h₀ L m g R (match fl with | .ret v => v | _ => .none) s')
        (fun e s' => wpAny (model prog w) (A.deeper (envOf qual scope L' f cdv)) (leaving (envOf qual scope L' f cdv) e) (fun _ s'' => R (.error e) s'') (fun e' s'' => R (.error e') s'') s')
        { s with heap := h₁, toks := s.toks + binds.length })
    (hco : scope.isCoroutine = false) (hgen : scope.isGenerator = false) (hk : scope.kind = .function)
    (hcell : ∀ x ∈ scope.names, x.2 ≠ .cell) : codeAny (model prog w) A (.call (.ref f) args) R s := by
  obtain ⟨FG, BG, st, lv⟩ := groundX (R := R) B F N hA hf hke
  have gone : ∀ q ∈ news, (hideAll s.heap (news.map (·.1))).get? q.1 = none := fun q hq => hideAll_none _ (List.mem_map_of_mem hq)
  refine codeAny_call_def (fd := fnOf name qual params body scope dV kV doc pm an cdv ct) (body := body) (binds := binds) hroom ((X₀.keeps F.keep) _ _ ho) rfl (T.nolimit.keeps F.keep) (codeRec_of (X₀.keeps F.keep) hcd) rfl hbind hcell hloc (fun h₁ ns₁ k₁ => ?_) hco hgen hk
  have F₁ : Fr (hideAll s.heap (news.map (·.1))) s.heap.objs.size h₁ (fun y => binds.reverse.lookup y) := ⟨ns₁, fun b o e => k₁ b o (of_hideAll _ e), by rw [hideAll_size]; exact Nat.le_refl _⟩
  have N₁ : News (hideAll s.heap (news.map (·.1))) s.heap.objs.size h₁ news := fun q hq => ⟨k₁ _ _ (N q hq).1, Nat.ne_of_lt (Heap.lt_size (N q hq).1), gone q hq⟩
  refine wpAny_mono (h _ _ _ (kept_hide hM) FG F₁ N₁ BG (X₀.keeps st) (T.keeps st) fun q hq => Heap.lt_size (N q hq).1) (fun fl s' hl => lv _ _ hl) (fun _ _ y => y)
theorem enterMC (B : Below A₀ base outer h₀) (F : Fr h₀ L s.heap m) (X₀ : K.In h₀) (hM : News h₀ L s.heap more) (N : News h₀ L s.heap news) (T : Top p loose mean mg mb h₀) (hA : A.frames = some (env :: outer)) (hf : env.frame = some L) (hke : env.scope.kind = .function)
    (ho : K.lookup f = some ⟨oc, od, .func (fnOf name qual params body scope dV kV doc pm an cdv ct), osl⟩) (hcd : codeIn K cdv qual = true) (hroom : A.depth < recursionLimit)
    (hbind : BindsTo s (fnOf name qual params body scope dV kV doc pm an cdv ct) args binds) (hkind : (binds.all fun y => scope.names.lookup y.1 == some .local || scope.names.lookup y.1 == some .cell) = true)
    (hnd : ((cellsFrom 0 scope.names []).map (·.1)).Nodup)
    (h : ∀ g L' h₁ tk cells, Kept g (news.map (·.1)) more → Fr h₀ L g m → Fr g L' h₁ (bindL (envOfC qual scope L' f cdv).kindOf binds fun _ => none) → News g L' h₁ (cells ++ news) →
      CellsAre (bindC (envOfC qual scope L' f cdv).kindOf binds fun _ => none) (cellsFrom (L' + 1) scope.names []) cells → Below A base (env :: outer) g → K.In g → Top p loose mean mg mb g → (∀ q ∈ news, q.1 < L') →
      wpAny (model prog w) (A.deeper (envOfC qual scope L' f cdv)) (execs body (envOfC qual scope L' f cdv))
        (fun fl s' => LeaveK h₀ L m g R (match fl with | .ret v => v | _ => .none) s')
        (fun e s' => wpAny (model prog w) (A.deeper (envOfC qual scope L' f cdv)) (leaving (envOfC qual scope L' f cdv) e) (fun _ s'' => R (.error e) s'') (fun e' s'' => R (.error e') s'') s')
        { s with heap := h₁, toks := tk })
    (hco : scope.isCoroutine = false) (hgen : scope.isGenerator = false) (hk : scope.kind = .function) : codeAny (model prog w) A (.call (.ref f) args) R s := by
  obtain ⟨FG, BG, st, lv⟩ := groundX (R := R) B F N hA hf hke
  have gone : ∀ q ∈ news, (hideAll s.heap (news.map (·.1))).get? q.1 = none := fun q hq => hideAll_none _ (List.mem_map_of_mem hq)
  refine codeAny_call_function hroom ((X₀.keeps F.keep) _ _ ho) rfl hco hgen rfl (codeRec_of (X₀.keeps F.keep) hcd) (hbind _ _ _ _ ?_)
  refine wpAny_newFunctionEnv_cells hk (kindsX hkind _) fun env' he s' x => ?_
  subst he
  refine ⟨(T.nolimit.keeps F.keep).keeps x.toInCall.keep, codeAny_func ?_⟩
  obtain ⟨h₁, tk, rfl, _⟩ := x.done
  have k₁ := x.toInCall.keep
  obtain ⟨cells, NC, Y⟩ := Cl.news (h₀ := s.heap) (Nat.le_refl _) fun n c hm => ⟨x.cell n c (lookup_of_mem_nodup (cellsFrom_names scope.names 0 (s.heap.objs.size + 1) [] [] rfl ▸ hnd) hm), x.above n c hm⟩
  have F₁ : Fr (hideAll s.heap (news.map (·.1))) s.heap.objs.size h₁ _ := ⟨x.toInCall.ns, fun b o e => k₁ b o (of_hideAll _ e), by rw [hideAll_size]; exact Nat.le_refl _⟩
  have N₁ : News (hideAll s.heap (news.map (·.1))) s.heap.objs.size h₁ (cells ++ news) := fun q hq => by
    rcases List.mem_append.mp hq with hq | hq
    · refine ⟨(NC q hq).1, (NC q hq).2.1, ?_⟩
      cases e : (hideAll s.heap (news.map (·.1))).get? q.1 with
      | none => rfl
      | some o => exact absurd ((of_hideAll _ e).symm.trans (NC q hq).2.2) (by intro z; cases z)
    · exact ⟨k₁ _ _ (N q hq).1, Nat.ne_of_lt (Heap.lt_size (N q hq).1), gone q hq⟩
  exact wpAny_mono (h _ _ _ _ _ (kept_hide hM) FG F₁ N₁ Y BG (X₀.keeps st) (T.keeps st) fun q hq => Heap.lt_size (N q hq).1) (fun fl s' hl => lv _ _ hl) fun _ _ y => y
theorem leaveM {g h : Heap} {L' : Addr} {m' : Str → Option Value} {news' : List (Addr × Obj)} {v : Value} {s' : Shared} (hM : News h₀ L h more) (hN : News h₀ L h news) (G : Kept g (news.map (·.1)) more) (F' : Fr g L' s'.heap m') (N' : News g L' s'.heap news') (sub : ∀ q ∈ news, q ∈ news')
    (k : Fr h₀ L s'.heap m → News h₀ L s'.heap news' → News h₀ L s'.heap more → R (.ok (.ret v)) s') : LeaveK h₀ L m g R v s' :=
  leaveK_ F' N' fun kF kN => k kF kN fun q hq => by
    refine ⟨?_, (hM q hq).2⟩
    by_cases c : q.1 ∈ news.map (·.1)
    · obtain ⟨r, hr, e⟩ := List.mem_map.mp c
      have h1 := (hN r hr).1
      have h2 := (hM q hq).1
      rw [e, h2] at h1
      have h3 := (kN r (sub r hr)).1
      rw [e, ← Option.some.inj h1] at h3
      exact h3
    · exact F'.keep _ _ (G q hq c)
theorem news_nil {h : Heap} : News h₀ L h [] := fun _ hq => nomatch hq
theorem news_one {h : Heap} {q : Addr × Obj} {r : List (Addr × Obj)} (x : h.get? q.1 = some q.2 ∧ q.1 ≠ L ∧ h₀.get? q.1 = none) (N : News h₀ L h r) : News h₀ L h (q :: r) := fun p hp => by
  rcases List.mem_cons.mp hp with rfl | hp
  · exact x
  · exact N _ hp
theorem news_add {h : Heap} {q : Addr × Obj} (N : News h₀ L h (q :: news)) (M : News h₀ L h more) : News h₀ L h (q :: more) := fun r hr => by
  rcases List.mem_cons.mp hr with rfl | hr
  · exact N _ (.head _)
  · exact M r hr
theorem new_ne {g h : Heap} {L' : Addr} {l : Addr} {o : Obj} {args news' : List (Addr × Obj)} (G : Kept g (args.map (·.1)) more) (N' : News g L' h ((l, o) :: news')) (ha : ∀ q ∈ args, q.1 ≠ l) : ∀ p ∈ more, p.1 ≠ l := fun p hp e => by
  by_cases c : p.1 ∈ args.map (·.1)
  · obtain ⟨q, hq, e'⟩ := List.mem_map.mp c
    exact ha q hq (e'.trans e)
  · have h1 := G p hp c
    have h2 := (N' (l, o) (.head _)).2.2
    rw [e, h2] at h1
    cases h1
end
end Mine
end

section
open PySem PySem.W PyProof.Rows
set_option Elab.async false
set_option maxRecDepth 100000
namespace Mine
/-- a place in a bigger tree: it lets the nodes through -/
structure Ctx {α : Type} (C : Sem α → Sem Fin) : Prop where
  rule : ∀ t k, C (.rule t k) = .rule t fun x => C (k x)
  at_ : ∀ p k, C (.at p k) = .at p fun x => C (k x)
  load : ∀ a p k, C (.load a p k) = .load a p fun x => C (k x)
  update : ∀ a p f k, C (.update a p f k) = .update a p f fun x => C (k x)
  alloc : ∀ o k, C (.alloc o k) = .alloc o fun x => C (k x)
  point : ∀ l k, ∃ l', C (.point l k) = .point l' fun x => C (k x)
  fresh : ∀ k, C (.fresh k) = .fresh fun x => C (k x)
  ask : ∀ k, C (.ask k) = .ask fun x => C (k x)
  call : ∀ c h g l k, ∃ g' l', C (.call c h g l k) = .call c h g' l' fun x => C (k x)
theorem Ctx.bind {α β : Type} {C : Sem β → Sem Fin} (h : Ctx C) (f : α → Sem β) : Ctx (fun m : Sem α => C (m.bind f)) where
  rule t k := h.rule _ _
  at_ t k := h.at_ _ _
  load a p k := h.load _ _ _
  update a p g k := h.update _ _ _ _
  alloc o k := h.alloc _ _
  point l k := h.point _ _
  fresh k := h.fresh _
  ask k := h.ask _
  call c hh g l k := h.call _ _ _ _ _
theorem Ctx.keep {α : Type} {C : Sem α → Sem Fin} (h : Ctx C) (vs : List Value) : Ctx (fun m : Sem α => C (m.keep vs)) where
  rule t k := h.rule _ _
  at_ t k := h.at_ _ _
  load a p k := h.load _ _ _
  update a p g k := h.update _ _ _ _
  alloc o k := h.alloc _ _
  point l k := h.point _ _
  fresh k := h.fresh _
  ask k := h.ask _
  call c hh g l k := h.call _ _ _ _ _
theorem Ctx.onRaise {α : Type} {C : Sem α → Sem Fin} (h : Ctx C) (f : Value → Sem Unit) : Ctx (fun m : Sem α => C (m.onRaise f)) where
  rule t k := h.rule _ _
  at_ t k := h.at_ _ _
  load a p k := h.load _ _ _
  update a p g k := h.update _ _ _ _
  alloc o k := h.alloc _ _
  point l k := h.point _ _
  fresh k := h.fresh _
  ask k := h.ask _
  call c hh g l k := h.call _ _ _ _ _
theorem Ctx.tryCatch {α : Type} {C : Sem α → Sem Fin} (h : Ctx C) (f : Value → Sem α) : Ctx (fun m : Sem α => C (m.tryCatch f)) where
  rule t k := h.rule _ _
  at_ t k := h.at_ _ _
  load a p k := h.load _ _ _
  update a p g k := h.update _ _ _ _
  alloc o k := h.alloc _ _
  point l k := h.point _ _
  fresh k := h.fresh _
  ask k := h.ask _
  call c hh g l k := h.call _ _ _ _ _
theorem Ctx.wrap {α : Type} (K : α → Sem Fin) (H : Value → Sem Fin) (gd : Bool → Bool) (lv : List Value → List Value) : Ctx (fun m : Sem α => m.wrap K H gd lv) where
  rule t k := rfl
  at_ t k := rfl
  load a p k := rfl
  update a p g k := rfl
  alloc o k := rfl
  point l k := ⟨_, rfl⟩
  fresh k := rfl
  ask k := rfl
  call c hh g l k := ⟨_, _, rfl⟩
section
variable {p : Program} {w : World} {n₀ : Nat} {ann : Option Value} {cb : List Stmt} {ce : Env} {f0 : Frame}
/-- the tree runs in n steps to its value -/
noncomputable def R (p : Program) (w : World) (n₀ : Nat) (ann : Option Value) (cb : List Stmt) (ce : Env) (f0 : Frame) {α : Type} (n : Nat) (s : Shared) (q : Pos) (m : Sem α) (s' : Shared) (q' : Pos) (a : α) : Prop :=
  ∀ C, Ctx C → segGo treeTable p w n₀ ann 1 n s ⟨C m, Code.body cb ce, q, [f0]⟩ = some (s', ⟨C (.pure a), Code.body cb ce, q', [f0]⟩)
theorem segGo_add : ∀ {n n' : Nat} {s s1 : Shared} {t t1 : Thread} {r : Option (Shared × Thread)}, segGo treeTable p w n₀ ann 1 n s t = some (s1, t1) → segGo treeTable p w n₀ ann 1 n' s1 t1 = r → segGo treeTable p w n₀ ann 1 (n + n') s t = r
  | 0, n', s, s1, t, t1, r, h, k => by
    obtain ⟨rfl, rfl⟩ : s = s1 ∧ t = t1 := by simpa [segGo] using h
    rw [Nat.zero_add]; exact k
  | n + 1, n', s, s1, t, t1, r, h, k => by
    rw [show n + 1 + n' = n + n' + 1 by omega]
    unfold segGo at h ⊢
    cases he : endAt 1 t with
    | some f => rw [he] at h; cases h
    | none =>
      rw [he] at h
      cases hk : stepOk n₀ ann t with
      | false => rw [hk] at h; cases h
      | true =>
        rw [hk] at h
        dsimp only at h ⊢
        cases hs : step (denote treeTable) p w s t with
        | halt _ _ => rw [hs] at h; cases h
        | go s' t' =>
          rw [hs] at h
          exact segGo_add h k
theorem R.pure {α : Type} {s : Shared} {q : Pos} (a : α) : R p w n₀ ann cb ce f0 0 s q (.pure a) s q a := fun _ _ => rfl
theorem R.bind {α β : Type} {n n' : Nat} {s s1 s2 : Shared} {q q1 q2 : Pos} {m : Sem α} {f : α → Sem β} {a : α} {b : β} (h : R p w n₀ ann cb ce f0 n s q m s1 q1 a) (k : R p w n₀ ann cb ce f0 n' s1 q1 (f a) s2 q2 b) :
    R p w n₀ ann cb ce f0 (n + n') s q (m.bind f) s2 q2 b := fun C hC => segGo_add (h _ (hC.bind f)) (k C hC)
theorem R.keep {α : Type} {n : Nat} {s s1 : Shared} {q q1 : Pos} {m : Sem α} {a : α} {vs : List Value} (h : R p w n₀ ann cb ce f0 n s q m s1 q1 a) : R p w n₀ ann cb ce f0 n s q (m.keep vs) s1 q1 a := fun C hC => h _ (hC.keep vs)
theorem R.holding {α : Type} {n : Nat} {s s1 : Shared} {q q1 : Pos} {m : Sem α} {a : α} {vs : List Value} (h : R p w n₀ ann cb ce f0 n s q m s1 q1 a) : R p w n₀ ann cb ce f0 n s q (holding vs m) s1 q1 a := by
  unfold PySem.holding
  split
  · exact h
  · exact h.keep
theorem R.onRaise {α : Type} {n : Nat} {s s1 : Shared} {q q1 : Pos} {m : Sem α} {a : α} {f : Value → Sem Unit} (h : R p w n₀ ann cb ce f0 n s q m s1 q1 a) : R p w n₀ ann cb ce f0 n s q (m.onRaise f) s1 q1 a := fun C hC => h _ (hC.onRaise f)
theorem R.tryCatch {α : Type} {n : Nat} {s s1 : Shared} {q q1 : Pos} {m : Sem α} {a : α} {f : Value → Sem α} (h : R p w n₀ ann cb ce f0 n s q m s1 q1 a) : R p w n₀ ann cb ce f0 n s q (m.tryCatch f) s1 q1 a := fun C hC => h _ (hC.tryCatch f)
theorem R.rule {s : Shared} {q : Pos} (t : String) : R p w n₀ ann cb ce f0 1 s q (PySem.rule t) s q () := fun C hC => by
  unfold PySem.rule; rw [hC.rule]; rfl
theorem R.standAt {s : Shared} {q : Pos} (q' : Pos) : R p w n₀ ann cb ce f0 1 s q (PySem.standAt q') s q' () := fun C hC => by
  unfold PySem.standAt; rw [hC.at_]; rfl
theorem R.load {s : Shared} {q : Pos} {a : Addr} {part : Option Value} {o : Obj} (h : s.heap.get? a = some o) : R p w n₀ ann cb ce f0 1 s q (loadPart a part) s q o := fun C hC => by
  unfold PySem.loadPart; rw [hC.load]
  obtain ⟨hp, gs, dr, tk, os⟩ := s
  show (match (match hp.get? a with | some o => Step.go _ _ | none => _) with | .go s' t' => segGo _ _ _ _ _ _ 0 s' t' | .halt _ _ => none) = _
  rw [h]; rfl
theorem R.update {s : Shared} {q : Pos} {a : Addr} {part : Option Value} {o : Obj} {f : Obj → Obj} (h : s.heap.get? a = some o) (ha : Nat.ble n₀ a = true) : R p w n₀ ann cb ce f0 1 s q (updatePart a part f) { s with heap := s.heap.update a f } q () := fun C hC => by
  unfold PySem.updatePart; rw [hC.update]
  obtain ⟨hp, gs, dr, tk, os⟩ := s
  unfold segGo
  rw [show endAt 1 ⟨Sem.update a part f fun x => C (Sem.pure x), Code.body cb ce, q, [f0]⟩ = none by unfold endAt; split <;> simp_all]
  rw [show stepOk n₀ ann ⟨Sem.update a part f fun x => C (Sem.pure x), Code.body cb ce, q, [f0]⟩ = true by unfold stepOk; simp [ha]; rfl]
  show (match (if (hp.get? a).isSome then Step.go _ _ else _) with | .go s' t' => segGo _ _ _ _ _ _ 0 s' t' | .halt _ _ => none) = _
  rw [h]; rfl
theorem R.alloc {s : Shared} {q : Pos} (o : Obj) : R p w n₀ ann cb ce f0 1 s q (PySem.alloc o) { s with heap := s.heap.push o } q s.heap.objs.size := fun C hC => by
  unfold PySem.alloc; rw [hC.alloc]; obtain ⟨hp, gs, dr, tk, os⟩ := s; rfl
theorem R.fresh {s : Shared} {q : Pos} : R p w n₀ ann cb ce f0 1 s q PySem.fresh { s with toks := s.toks + 1 } q s.toks := fun C hC => by
  unfold PySem.fresh; rw [hC.fresh]; obtain ⟨hp, gs, dr, tk, os⟩ := s; rfl
theorem R.point {s : Shared} {q : Pos} : R p w n₀ ann cb ce f0 1 s q PySem.point s q () := fun C hC => by
  unfold PySem.point
  obtain ⟨l', e⟩ := hC.point [] Sem.pure
  rw [e]; obtain ⟨hp, gs, dr, tk, os⟩ := s; rfl
end
end Mine
namespace Mine
section
variable {p : Program} {w : World} {n₀ : Nat} {ann : Option Value} {cb : List Stmt} {ce : Env} {f0 : Frame}
theorem hash_run (k : Int) (t : Tok) (s : Shared) (q : Pos) (K : Result → Sem PySem.Fin) (h : Option Value) (g : Bool) (l kept : List Value) :
    segGo treeTable p w n₀ ann 1 2 s ⟨denote treeTable (.call (.builtin "int.__hash__") ⟨[.int k t], []⟩), .call (.builtin "int.__hash__") ⟨[.int k t], []⟩, q, [.ret K h g l (.body cb ce) q kept, f0]⟩ =
      some (⟨s.heap, s.gens, s.drawn, s.toks + 1, s.os⟩, ⟨.pure (.done (.ret (.int (rawHash k) s.toks))), .builtin "int.__hash__" ⟨[.int k t], []⟩, q, [.ret K h g l (.body cb ce) q (keptBy (.call (.builtin "int.__hash__") ⟨[.int k t], []⟩) (.builtin "int.__hash__" ⟨[.int k t], []⟩) l kept), f0]⟩) := by
  obtain ⟨hp, gs, dr, tk, os⟩ := s
  kernel_rfl!
end
end Mine
end

section
open PySem PySem.W PyProof.Rows PySem.Spec
set_option Elab.async false
set_option maxRecDepth 100000
namespace Mine
section
variable {p : Program} {w : World} {n₀ : Nat} {ann : Option Value} {cb : List Stmt} {ce : Env} {f0 : Frame}
theorem R.bindM {α β : Type} {n n' : Nat} {s s1 s2 : Shared} {q q1 q2 : Pos} {m : Sem α} {f : α → Sem β} {a : α} {b : β} (h : R p w n₀ ann cb ce f0 n s q m s1 q1 a) (k : R p w n₀ ann cb ce f0 n' s1 q1 (f a) s2 q2 b) :
    R p w n₀ ann cb ce f0 (n + n') s q (m >>= f) s2 q2 b := R.bind h k
theorem R.ask {s : Shared} {q : Pos} : R p w n₀ ann cb ce f0 1 s q PySem.ask s q ⟨p, w.params⟩ := fun C hC => by
  unfold PySem.ask; rw [hC.ask]; obtain ⟨hp, gs, dr, tk, os⟩ := s; rfl
theorem R.hashNode {k : Int} {t : Tok} {s : Shared} {q : Pos} {α : Type} {h : Option Value} {g : Bool} {l : List Value} {K : Result → Sem α} {a : α} (hK : K (.ok (.ret (.int (rawHash k) s.toks))) = .pure a) :
    R p w n₀ ann cb ce f0 (1 + (2 + 1)) s q (.call (.call (.builtin "int.__hash__") ⟨[.int k t], []⟩) h g l K) ⟨s.heap, s.gens, s.drawn, s.toks + 1, s.os⟩ q a := fun C hC => by
  obtain ⟨g', l', e⟩ := hC.call (.call (.builtin "int.__hash__") ⟨[.int k t], []⟩) h g l K
  rw [e, ← hK]
  refine segGo_add (s1 := s) (t1 := ⟨denote treeTable (.call (.builtin "int.__hash__") ⟨[.int k t], []⟩), .call (.builtin "int.__hash__") ⟨[.int k t], []⟩, q, [.ret (fun r => C (K r)) h g' l' (.body cb ce) q [], f0]⟩) ?_ (segGo_add (hash_run k t s q _ h g' l' []) ?_)
  · obtain ⟨hp, gs, dr, tk, os⟩ := s; rfl
  · rfl
theorem R.hashRun {k : Int} {t : Tok} {s : Shared} {q : Pos} : R p w n₀ ann cb ce f0 (1 + (2 + 1)) s q (PySem.run (.call (.builtin "int.__hash__") ⟨[.int k t], []⟩)) ⟨s.heap, s.gens, s.drawn, s.toks + 1, s.os⟩ q (.ret (.int (rawHash k) s.toks)) := R.hashNode rfl
theorem R.hashCall {k : Int} {t : Tok} {s : Shared} {q : Pos} : R p w n₀ ann cb ce f0 4 s q (PySem.call (.builtin "int.__hash__") [.int k t]) ⟨s.heap, s.gens, s.drawn, s.toks + 1, s.os⟩ q (.int (rawHash k) s.toks) :=
  R.bindM (n := 4) (n' := 0) R.hashRun (R.pure _)
theorem special_hash (k : Int) (t : Tok) : specialOf (.int k t) "__hash__" = pure (some (.builtin "int.__hash__")) := slot_int_hash.lookup
theorem R.pyHash {k : Int} {t : Tok} {s : Shared} {q : Pos} : R p w n₀ ann cb ce f0 5 s q (PySem.pyHash (.int k t)) ⟨s.heap, s.gens, s.drawn, s.toks + 1, s.os⟩ q (hashInt k) := by
  have hr := rawHash_range k
  have hv : [Value.int k t].any Value.onHeap = false := rfl
  unfold PySem.pyHash
  refine R.bindM (n := 0) (n' := 5) (a := ()) (s1 := s) (q1 := q) ?_ ?_
  · rw [cRoomFor, if_neg (by rw [hv]; exact Bool.false_ne_true)]; exact R.pure _
  refine R.bindM (n := 0) (n' := 5) (a := some (Value.builtin "int.__hash__")) (s1 := s) (q1 := q) (by rw [special_hash]; exact R.pure _) ?_
  show R _ _ _ _ _ _ _ 5 s q (if (some (Value.builtin "int.__hash__") == some Value.none) = true then _ else _) _ _ _
  rw [if_neg (by rw [beq_builtin_none]; exact Bool.false_ne_true)]
  refine R.bindM (n := 0) (n' := 5) (a := some (Value.builtin "int.__hash__")) (s1 := s) (q1 := q) (by rw [special_hash]; exact R.pure _) ?_
  show R _ _ _ _ _ _ _ 5 s q (callSpecialIfBoundUnlessNone? (.int k t) "__hash__" _ >>= _) _ _ _
  refine R.bindM (n := 5) (n' := 0) (a := some (Value.int (rawHash k) s.toks)) (s1 := ⟨s.heap, s.gens, s.drawn, s.toks + 1, s.os⟩) (q1 := q) ?_ ?_
  · unfold callSpecialIfBoundUnlessNone?
    refine R.holding ?_
    refine R.bindM (n := 1) (n' := 4) (a := some (Value.builtin "int.__hash__", [Value.int k t])) (s1 := s) (q1 := q) ?_ ?_
    · unfold bindSpecialIfBound?
      refine R.bindM (n := 0) (n' := 1) (a := some (Value.builtin "int.__hash__")) (s1 := s) (q1 := q) (by rw [special_hash]; exact R.pure _) ?_
      refine R.bindM (n := 1) (n' := 0) R.ask ?_
      have hb : R p w n₀ ann cb ce f0 0 s q (do return some (← bindSpecial (.builtin "int.__hash__") (.int k t))) s q (some (Value.builtin "int.__hash__", [Value.int k t])) := by
        rw [slot_int_hash.bind]; exact R.pure _
      dsimp only
      split
      · exact hb
      · exact R.tryCatch hb
    · show R _ _ _ _ _ _ _ 4 s q (if (Value.builtin "int.__hash__" == Value.none) = true then _ else _) _ _ _
      rw [if_neg (by decide)]
      exact R.bindM (n := 4) (n' := 0) R.hashCall (R.pure _)
  · show R _ _ _ _ _ _ _ 0 _ q (if (decide (-(2 : Int) ^ 63 ≤ rawHash k) && decide (rawHash k < 2 ^ 63)) = true then _ else _) _ _ _
    rw [if_pos (by rw [decide_eq_true hr.1, decide_eq_true hr.2]; rfl)]
    exact R.pure _
end
end Mine
end

section
open PySem PySem.W PyProof.Rows PySem.Spec
set_option Elab.async false
set_option maxRecDepth 100000
namespace Mine
noncomputable abbrev dob (es : List DictEntry) (ep : Nat) : Obj := { cls := .type "dict", data := .dict es.toArray ep }
section
variable {p : Program} {w : World} {n₀ : Nat} {ann : Option Value} {cb : List Stmt} {ce : Env} {f0 : Frame} {life : Life} {gs : Array GenState} {dr : Drawn} {os : OsState}
noncomputable abbrev ST (life : Life) (gs : Array GenState) (dr : Drawn) (os : OsState) (l : List Obj) (tk : Nat) : Shared := ⟨⟨l.toArray, life⟩, gs, dr, tk, os⟩
theorem get_list {L S : List Obj} {es : List DictEntry} {ep tk : Nat} : (ST life gs dr os (L ++ dob es ep :: S) tk).heap.get? L.length = some (dob es ep) := by
  show (match (L ++ dob es ep :: S).toArray[L.length]? with | some ⟨_, _, .freed, _⟩ => none | o => o) = _
  rw [List.getElem?_toArray, List.getElem?_append_right (Nat.le_refl _), Nat.sub_self]
  rfl
theorem modify_app (o : Obj) (f : Obj → Obj) (S : List Obj) : ∀ L : List Obj, (L ++ o :: S).modify L.length f = L ++ f o :: S
  | [] => rfl
  | a :: r => by rw [List.cons_append, List.length_cons, List.modify_succ_cons, modify_app o f S r, List.cons_append]
theorem upd_list {L S : List Obj} {o : Obj} {f : Obj → Obj} : (⟨(L ++ o :: S).toArray, life⟩ : Heap).update L.length f = ⟨(L ++ f o :: S).toArray, life⟩ := by
  show (⟨(L ++ o :: S).toArray.modify L.length f, life⟩ : Heap) = _
  congr 1
  rw [List.modify_toArray]
  congr 1
  exact modify_app o f S L
theorem push_list {L : List Obj} {o : Obj} : (⟨L.toArray, life⟩ : Heap).push o = ⟨(L ++ [o]).toArray, life⟩ := by
  show (⟨L.toArray.push o, life⟩ : Heap) = _
  rw [List.push_toArray]
theorem noPlaces {es : List DictEntry} {h : Int} (hn : ∀ e ∈ es, e.hash ≠ h) : placesWithHash es.toArray.size (fun i => es.toArray[i]?.map (·.hash)) h = [] := by
  unfold placesWithHash
  rw [List.filter_eq_nil_iff]
  intro i _ hi
  dsimp only at hi
  rw [List.getElem?_toArray, beq_iff_eq, Option.map_eq_some_iff] at hi
  obtain ⟨e, he, hh⟩ := hi
  exact hn e (List.mem_of_getElem? he) hh
variable {L S : List Obj} {es : List DictEntry} {ep tk : Nat} {q : Pos}
theorem R.find {k : Int} {t : Tok} (hn : ∀ e ∈ es, e.hash ≠ hashInt k) : R p w n₀ ann cb ce f0 1 (ST life gs dr os (L ++ dob es ep :: S) tk) q (dictFind L.length (.int k t) (hashInt k)) (ST life gs dr os (L ++ dob es ep :: S) tk) q none := by
  unfold dictFind
  refine R.holding ?_
  refine R.bindM (n := 1) (n' := 0) (a := es.toArray) (s1 := ST life gs dr os (L ++ dob es ep :: S) tk) (q1 := q) ?_ ?_
  · unfold dictEntries
    exact R.bindM (n := 1) (n' := 0) (R.load get_list) (R.pure _)
  · dsimp only
    rw [noPlaces hn]
    exact R.pure _
theorem R.updKeys {f : Array DictEntry → Array DictEntry} {es' : List DictEntry} (hf : f es.toArray = es'.toArray) {part : Option Value} (ha : Nat.ble n₀ L.length = true) (hz : es'.length ≤ sizeLine + 1) :
    R p w n₀ ann cb ce f0 3 (ST life gs dr os (L ++ dob es ep :: S) tk) q (updateDictKeys L.length f part) (ST life gs dr os (L ++ dob es' (ep + 1) :: S) tk) q () := by
  unfold updateDictKeys
  refine R.bindM (n := 1) (n' := 2) (R.load get_list) ?_
  dsimp only
  refine R.bindM (n := 1) (n' := 1) (s1 := ST life gs dr os (L ++ dob es' (ep + 1) :: S) tk) (q1 := q) (a := ()) ?_ ?_
  · have := R.update (p := p) (w := w) (ann := ann) (cb := cb) (ce := ce) (f0 := f0) (q := q) (part := part) (f := Obj.mapDictKeys f) (get_list (life := life) (gs := gs) (dr := dr) (os := os) (L := L) (S := S) (es := es) (ep := ep) (tk := tk)) ha
    have e : (⟨(ST life gs dr os (L ++ dob es ep :: S) tk).heap.update L.length (Obj.mapDictKeys f), gs, dr, tk, os⟩ : Shared) = ST life gs dr os (L ++ dob es' (ep + 1) :: S) tk := by
      show (⟨(⟨(L ++ dob es ep :: S).toArray, life⟩ : Heap).update L.length (Obj.mapDictKeys f), gs, dr, tk, os⟩ : Shared) = _
      rw [upd_list]
      show (⟨⟨(L ++ { cls := .type "dict", data := .dict (f es.toArray) (ep + 1) } :: S).toArray, life⟩, gs, dr, tk, os⟩ : Shared) = _
      rw [hf]
    rw [← e]; exact this
  · unfold lookBehind
    refine R.bindM (n := 1) (n' := 0) (R.load get_list) ?_
    rw [show (dob es' (ep + 1)).data.pastItsLine = none by
      show (if es'.toArray.size > sizeLine + 1 then some "dict:memory" else none) = none
      rw [if_neg (by rw [List.size_toArray]; omega)]]
    exact R.pure _
/-- a new entry -/
noncomputable abbrev ent (k : Int) (t : Tok) (v : Value) : DictEntry := ⟨hashInt k, .int k t, v⟩
theorem R.dictSet {k : Int} {t : Tok} {v : Value} (hn : ∀ e ∈ es, e.hash ≠ hashInt k) (ha : Nat.ble n₀ L.length = true) (hz : es.length ≤ sizeLine) :
    R p w n₀ ann cb ce f0 10 (ST life gs dr os (L ++ dob es ep :: S) tk) q (PySem.dictSet L.length (.int k t) v) (ST life gs dr os (L ++ dob (es ++ [ent k t v]) (ep + 1) :: S) (tk + 1)) q () := by
  unfold PySem.dictSet
  refine R.holding ?_
  refine R.bindM (n := 5) (n' := 5) R.pyHash ?_
  unfold dictSetHashed
  refine R.holding ?_
  refine R.bindM (n := 1) (n' := 4) (R.find hn) ?_
  dsimp only
  refine R.bindM (n := 1) (n' := 3) (R.rule _) ?_
  exact R.updKeys (by simp) ha (by simp; omega)
theorem R.dictPut {k : Int} {t : Tok} {v : Value} (hn : ∀ e ∈ es, e.hash ≠ hashInt k) (ha : Nat.ble n₀ L.length = true) (hz : es.length ≤ sizeLine) :
    R p w n₀ ann cb ce f0 4 (ST life gs dr os (L ++ dob es ep :: S) tk) q (PySem.dictPut L.length (hashInt k) (.int k t) v) (ST life gs dr os (L ++ dob (es ++ [ent k t v]) (ep + 1) :: S) tk) q () := by
  unfold PySem.dictPut
  refine R.bindM (n := 1) (n' := 3) (R.find hn) ?_
  exact R.updKeys (by simp) ha (by simp; omega)
end
end Mine
end

section
open PySem PySem.W PyProof.Rows PySem.Spec
set_option Elab.async false
set_option maxRecDepth 100000
namespace Mine
section
variable {p : Program} {w : World} {n₀ : Nat} {ann : Option Value} {cb : List Stmt} {ce : Env} {f0 : Frame} {life : Life} {gs : Array GenState} {dr : Drawn} {os : OsState}
theorem rx_forIn_nil {α β : Type} {s : Shared} {q : Pos} {b : β} {f : α → β → Sem (ForInStep β)} : R p w n₀ ann cb ce f0 0 s q (forIn ([] : List α) b f) s q b := by
  rw [List.forIn_nil]; exact R.pure _
theorem rx_forIn_cons {α β : Type} {n n' : Nat} {s s1 s2 : Shared} {q q1 q2 : Pos} {x : α} {xs : List α} {b b1 r : β} {f : α → β → Sem (ForInStep β)} (h : R p w n₀ ann cb ce f0 n s q (f x b) s1 q1 (.yield b1)) (k : R p w n₀ ann cb ce f0 n' s1 q1 (forIn xs b1 f) s2 q2 r) :
    R p w n₀ ann cb ce f0 (n + n') s q (forIn (x :: xs) b f) s2 q2 r := by
  rw [List.forIn_cons]
  exact R.bindM h k
/-- a key, a value behind its place -/
noncomputable abbrev kvT (pos : Pos) (e : Int × Str) : Sem Value × Sem Value := (mkInt e.1, do let x ← mkText e.2; standAt pos; pure x)
variable {L S : List Obj} {es : List DictEntry} {ep tk : Nat} {q pos : Pos}
theorem rx_kT {i : Int} {l : List Obj} : R p w n₀ ann cb ce f0 1 (ST life gs dr os l tk) q (mkInt i) (ST life gs dr os l (tk + 1)) q (.int i tk) := R.bindM (n := 1) (n' := 0) R.fresh (R.pure _)
theorem rx_vT {x : Str} {l : List Obj} : R p w n₀ ann cb ce f0 2 (ST life gs dr os l tk) q (do let y ← mkText x; standAt pos; pure y : Sem Value) (ST life gs dr os l (tk + 1)) pos (.str x tk) :=
  R.bindM (n := 1) (n' := 1) (R.bindM (n := 1) (n' := 0) R.fresh (R.pure _)) (R.bindM (n := 1) (n' := 0) (R.standAt _) (R.pure _))
noncomputable def subE : Nat → List (Int × Str) → List DictEntry
  | _, [] => []
  | t, (i, x) :: r => ent i t (.str x (t + 1)) :: subE (t + 3) r
noncomputable def endP (q pos : Pos) : List (Int × Str) → Pos
  | [] => q
  | _ :: _ => pos
theorem endP_same (pos : Pos) (l : List (Int × Str)) : endP pos pos l = pos := by cases l <;> rfl
theorem subE_len : ∀ (t : Nat) (l : List (Int × Str)), (subE t l).length = l.length
  | _, [] => rfl
  | t, (i, x) :: r => by rw [subE, List.length_cons, List.length_cons, subE_len]
theorem subE_hash : ∀ (t : Nat) (l : List (Int × Str)), (subE t l).map (·.hash) = l.map fun e => hashInt e.1
  | _, [] => rfl
  | t, (i, x) :: r => by rw [subE, List.map_cons, List.map_cons, subE_hash]
theorem subE_ent : ∀ (t : Nat) (l : List (Int × Str)), ∀ e ∈ subE t l, ∃ k u v, e = ent k u v
  | _, [], e, h => nomatch h
  | t, (i, x) :: r, e, h => by
    rw [subE] at h
    rcases List.mem_cons.mp h with rfl | h
    · exact ⟨_, _, _, rfl⟩
    · exact subE_ent (t + 3) r e h
theorem hash_off {h : Int} {r : List Int} (nd : (es.map (·.hash) ++ h :: r).Nodup) : ∀ e ∈ es, e.hash ≠ h := fun e he hh => by
  have := (List.nodup_append.mp nd).2.2 e.hash (List.mem_map_of_mem he) h (.head _)
  exact this hh
theorem rx_subLoop {f : Sem Value × Sem Value → PUnit → Sem (ForInStep PUnit)} (hf : ∀ k v r, f (k, v) r = (do let kv ← k; let vv ← holding [kv] v; holding [kv, vv] (dictSet L.length kv vv); pure (.yield PUnit.unit))) (ha : Nat.ble n₀ L.length = true) :
    ∀ (l : List (Int × Str)) (es : List DictEntry) (ep tk : Nat) (q : Pos), (es.map (·.hash) ++ l.map fun e => hashInt e.1).Nodup → es.length + l.length ≤ sizeLine →
    R p w n₀ ann cb ce f0 (13 * l.length) (ST life gs dr os (L ++ dob es ep :: S) tk) q (forIn (l.map (kvT pos)) PUnit.unit f) (ST life gs dr os (L ++ dob (es ++ subE tk l) (ep + l.length) :: S) (tk + 3 * l.length)) (endP q pos l) PUnit.unit
  | [], es, ep, tk, q, _, _ => by
    rw [subE, List.append_nil]
    exact rx_forIn_nil
  | (i, x) :: r, es, ep, tk, q, nd, sz => by
    rw [List.map_cons] at nd
    have ih := rx_subLoop hf ha r (es ++ [ent i tk (.str x (tk + 1))]) (ep + 1) (tk + 3) pos (by rw [List.map_append, List.append_assoc]; exact nd) (by simp only [List.length_append, List.length_cons, List.length_nil] at sz ⊢; omega)
    rw [endP_same] at ih
    have e1 : 13 * ((i, x) :: r).length = 13 + 13 * r.length := by rw [List.length_cons]; omega
    have e2 : ep + ((i, x) :: r).length = ep + 1 + r.length := by rw [List.length_cons]; omega
    have e3 : tk + 3 * ((i, x) :: r).length = tk + 3 + 3 * r.length := by rw [List.length_cons]; omega
    rw [e1, e2, e3, subE, List.map_cons, show es ++ ent i tk (.str x (tk + 1)) :: subE (tk + 3) r = (es ++ [ent i tk (.str x (tk + 1))]) ++ subE (tk + 3) r by simp]
    refine rx_forIn_cons ?_ ih
    rw [hf]
    refine R.bindM (n := 1) (n' := 12) rx_kT ?_
    refine R.bindM (n := 2) (n' := 10) (R.holding rx_vT) ?_
    refine R.bindM (n := 10) (n' := 0) (R.holding (R.dictSet (hash_off nd) ha (by simp only [List.length_cons] at sz; omega))) (R.pure _)
/-- the long way of a part of a display -/
theorem rx_subLong {l : List (Int × Str)} (h15 : 15 < l.length) (ha : Nat.ble n₀ L.length = true) (nd : (l.map fun e => hashInt e.1).Nodup) (sz : l.length ≤ sizeLine) :
    R p w n₀ ann cb ce f0 (2 + 13 * l.length) (ST life gs dr os L tk) q (subDict (l.map (kvT pos))) (ST life gs dr os (L ++ [dob (subE tk l) l.length]) (tk + 3 * l.length)) pos L.length := by
  unfold subDict
  rw [show 2 + 13 * l.length = 1 + (1 + 13 * l.length) by omega]
  refine R.bindM (a := L.length) (s1 := ST life gs dr os (L ++ dob [] 0 :: []) tk) (q1 := q) ?_ ?_
  · have := R.alloc (p := p) (w := w) (n₀ := n₀) (ann := ann) (cb := cb) (ce := ce) (f0 := f0) (s := ST life gs dr os L tk) (q := q) (dob [] 0)
    have e : (⟨(ST life gs dr os L tk).heap.push (dob [] 0), gs, dr, tk, os⟩ : Shared) = ST life gs dr os (L ++ dob [] 0 :: []) tk := by
      show (⟨(⟨L.toArray, life⟩ : Heap).push (dob [] 0), gs, dr, tk, os⟩ : Shared) = _
      rw [push_list]
    rw [← e]; exact this
  · dsimp only
    refine R.bindM (n := 1 + 13 * l.length) (n' := 0) (a := PUnit.unit) (R.holding ?_) (R.pure _)
    rw [if_neg (by rw [List.length_map]; omega)]
    refine R.bindM (n := 1) (n' := 13 * l.length) (R.rule _) ?_
    refine R.bindM (n := 13 * l.length) (n' := 0) (a := PUnit.unit) ?_ (R.pure _)
    have := rx_subLoop (p := p) (w := w) (ann := ann) (cb := cb) (ce := ce) (f0 := f0) (life := life) (gs := gs) (dr := dr) (os := os) (S := []) (pos := pos) (L := L) (n₀ := n₀) (f := fun x _ => (do let kv ← x.1; let vv ← holding [kv] x.2; holding [kv, vv] (dictSet L.length kv vv); pure (.yield PUnit.unit))) (fun _ _ _ => rfl) ha l [] 0 tk q (by simpa using nd) (by simpa using sz)
    rw [List.nil_append, Nat.zero_add, show endP q pos l = pos by cases l with | nil => simp at h15 | cons _ _ => rfl] at this
    exact this
end
end Mine
end

section
open PySem PySem.W PyProof.Rows PySem.Spec
set_option Elab.async false
set_option maxRecDepth 100000
namespace Mine
section
variable {p : Program} {w : World} {n₀ : Nat} {ann : Option Value} {cb : List Stmt} {ce : Env} {f0 : Frame} {life : Life} {gs : Array GenState} {dr : Drawn} {os : OsState}
variable {L S : List Obj} {es sa : List DictEntry} {ep ea tk : Nat} {q pos : Pos}
noncomputable def pvL : Nat → List (Int × Str) → List (Value × Value)
  | _, [] => []
  | t, (i, x) :: r => (.int i t, .str x (t + 1)) :: pvL (t + 2) r
noncomputable def endE : Nat → List (Int × Str) → List DictEntry
  | _, [] => []
  | t, (i, x) :: r => ent i t (.str x (t + 1)) :: endE (t + 2) r
theorem endE_len : ∀ (t : Nat) (l : List (Int × Str)), (endE t l).length = l.length
  | _, [] => rfl
  | t, (i, x) :: r => by rw [endE, List.length_cons, List.length_cons, endE_len]
theorem endE_hash : ∀ (t : Nat) (l : List (Int × Str)), (endE t l).map (·.hash) = l.map fun e => hashInt e.1
  | _, [] => rfl
  | t, (i, x) :: r => by rw [endE, List.map_cons, List.map_cons, endE_hash]
theorem endE_ent : ∀ (t : Nat) (l : List (Int × Str)), ∀ e ∈ endE t l, ∃ k u v, e = ent k u v
  | _, [], e, h => nomatch h
  | t, (i, x) :: r, e, h => by
    rw [endE] at h
    rcases List.mem_cons.mp h with rfl | h
    · exact ⟨_, _, _, rfl⟩
    · exact endE_ent (t + 2) r e h
theorem rx_evalPairs : ∀ (l : List (Int × Str)) (tk : Nat) (q : Pos), R p w n₀ ann cb ce f0 (3 * l.length) (ST life gs dr os L tk) q (evalPairs (l.map (kvT pos))) (ST life gs dr os L (tk + 2 * l.length)) (endP q pos l) (pvL tk l)
  | [], tk, q => R.pure _
  | (i, x) :: r, tk, q => by
    have ih := rx_evalPairs r (tk + 2) pos
    rw [endP_same] at ih
    rw [show 3 * ((i, x) :: r).length = 1 + (2 + (3 * r.length + 0)) by rw [List.length_cons]; omega, show tk + 2 * ((i, x) :: r).length = tk + 2 + 2 * r.length by rw [List.length_cons]; omega]
    show R _ _ _ _ _ _ _ _ _ _ (do let kv ← mkInt i; let vv ← holding [kv] (do let y ← mkText x; standAt pos; pure y); return (kv, vv) :: (← holding [kv, vv] (evalPairs (r.map (kvT pos))))) _ _ _
    refine R.bindM rx_kT ?_
    refine R.bindM (R.holding rx_vT) ?_
    exact R.bindM (R.holding ih) (R.pure _)
theorem rx_setLoop {f : Value × Value → PUnit → Sem (ForInStep PUnit)} (hf : ∀ k v r, f (k, v) r = (do PySem.dictSet L.length k v; pure (.yield PUnit.unit))) (ha : Nat.ble n₀ L.length = true) :
    ∀ (l : List (Int × Str)) (t : Nat) (es : List DictEntry) (ep tk : Nat), (es.map (·.hash) ++ l.map fun e => hashInt e.1).Nodup → es.length + l.length ≤ sizeLine →
    R p w n₀ ann cb ce f0 (10 * l.length) (ST life gs dr os (L ++ dob es ep :: S) tk) q (forIn (pvL t l) PUnit.unit f) (ST life gs dr os (L ++ dob (es ++ endE t l) (ep + l.length) :: S) (tk + l.length)) q PUnit.unit
  | [], t, es, ep, tk, _, _ => by
    rw [endE, List.append_nil]
    exact rx_forIn_nil
  | (i, x) :: r, t, es, ep, tk, nd, sz => by
    rw [List.map_cons] at nd
    have ih := rx_setLoop hf ha r (t + 2) (es ++ [ent i t (.str x (t + 1))]) (ep + 1) (tk + 1) (by rw [List.map_append, List.append_assoc]; exact nd) (by simp only [List.length_append, List.length_cons, List.length_nil] at sz ⊢; omega)
    rw [show 10 * ((i, x) :: r).length = 10 + 10 * r.length by rw [List.length_cons]; omega, show ep + ((i, x) :: r).length = ep + 1 + r.length by rw [List.length_cons]; omega, show tk + ((i, x) :: r).length = tk + 1 + r.length by rw [List.length_cons]; omega,
      endE, pvL, show es ++ ent i t (.str x (t + 1)) :: endE (t + 2) r = (es ++ [ent i t (.str x (t + 1))]) ++ endE (t + 2) r by simp]
    refine rx_forIn_cons ?_ ih
    rw [hf]
    exact R.bindM (n := 10) (n' := 0) (R.dictSet (hash_off nd) ha (by simp only [List.length_cons] at sz; omega)) (R.pure _)
/-- the short way of a part of a display -/
theorem rx_subShort {l : List (Int × Str)} (h15 : l.length ≤ 15) (h0 : 0 < l.length) (ha : Nat.ble n₀ L.length = true) (nd : (l.map fun e => hashInt e.1).Nodup) :
    R p w n₀ ann cb ce f0 (1 + 13 * l.length) (ST life gs dr os L tk) q (subDict (l.map (kvT pos))) (ST life gs dr os (L ++ [dob (endE tk l) l.length]) (tk + 3 * l.length)) pos L.length := by
  unfold subDict
  refine R.bindM (a := L.length) (s1 := ST life gs dr os (L ++ dob [] 0 :: []) tk) (q1 := q) ?_ ?_
  · have := R.alloc (p := p) (w := w) (n₀ := n₀) (ann := ann) (cb := cb) (ce := ce) (f0 := f0) (s := ST life gs dr os L tk) (q := q) (dob [] 0)
    have e : (⟨(ST life gs dr os L tk).heap.push (dob [] 0), gs, dr, tk, os⟩ : Shared) = ST life gs dr os (L ++ dob [] 0 :: []) tk := by
      show (⟨(⟨L.toArray, life⟩ : Heap).push (dob [] 0), gs, dr, tk, os⟩ : Shared) = _
      rw [push_list]
    rw [← e]; exact this
  · dsimp only
    refine R.bindM (n := 13 * l.length) (n' := 0) (a := PUnit.unit) (R.holding ?_) (R.pure _)
    rw [if_pos (by rw [List.length_map]; exact h15), show 13 * l.length = 3 * l.length + 10 * l.length by omega]
    refine R.bindM (rx_evalPairs l tk q) ?_
    rw [show endP q pos l = pos by cases l with | nil => simp at h0 | cons _ _ => rfl]
    refine R.holding ?_
    refine R.bindM (n := 10 * l.length) (n' := 0) (a := PUnit.unit) ?_ (R.pure _)
    have := rx_setLoop (p := p) (w := w) (ann := ann) (cb := cb) (ce := ce) (f0 := f0) (life := life) (gs := gs) (dr := dr) (os := os) (S := []) (q := pos) (L := L) (n₀ := n₀) (f := fun x _ => (do PySem.dictSet L.length x.1 x.2; pure (.yield PUnit.unit))) (fun _ _ _ => rfl) ha l tk [] 0 (tk + 2 * l.length) (by simpa using nd) (by simp only [List.length_nil]; exact Nat.le_trans (by omega) (show 15 ≤ sizeLine by decide))
    rw [List.nil_append, Nat.zero_add, show tk + 2 * l.length + l.length = tk + 3 * l.length by omega] at this
    exact this
theorem get_sub : (ST life gs dr os (L ++ dob es ep :: (S ++ [dob sa ea])) tk).heap.get? (L.length + 1 + S.length) = some (dob sa ea) := by
  have := get_list (life := life) (gs := gs) (dr := dr) (os := os) (L := L ++ dob es ep :: S) (S := []) (es := sa) (ep := ea) (tk := tk)
  rw [show (L ++ dob es ep :: S).length = L.length + 1 + S.length by simp; omega, show (L ++ dob es ep :: S) ++ dob sa ea :: [] = L ++ dob es ep :: (S ++ [dob sa ea]) by simp] at this
  exact this
theorem isSub_dict : isSubtype (.type "dict") (.type "dict") = Pure.pure true := by kernel_rfl!
theorem iter_dict : typeLookup (.type "dict") "__iter__" = Pure.pure (some (.builtin "dict.__iter__")) := by kernel_rfl!
theorem rx_entries {a : Nat} {part : Option Value} {s : Shared} (h : s.heap.get? a = some (dob sa ea)) : R p w n₀ ann cb ce f0 1 s q (dictEntries a part) s q sa.toArray := by
  unfold dictEntries
  exact R.bindM (n := 1) (n' := 0) (R.load h) (R.pure _)
theorem rx_epoch {a : Nat} {part : Option Value} {s : Shared} (h : s.heap.get? a = some (dob sa ea)) : R p w n₀ ann cb ce f0 1 s q (dictEpoch a part) s q ea := by
  unfold dictEpoch
  exact R.bindM (n := 1) (n' := 0) (R.load h) (R.pure _)
/-- one turn of a merge -/
noncomputable def mBody (d a epoch : Nat) (i : Nat) (_ : PUnit) : Sem (ForInStep PUnit) := do
  let es ← dictEntries a
  match es[i]? with
  | some e => do
    holding [e.key, e.val] (PySem.dictPut d e.hash e.key e.val)
    let x ← dictEpoch a
    if (x != epoch) = true then do
      unsupported "dict.changed-during-merge"
      pure (ForInStep.yield PUnit.unit)
    else pure (ForInStep.yield PUnit.unit)
  | _ => do
    unsupported "dict.changed-during-merge"
    pure (ForInStep.yield PUnit.unit)
theorem rx_mTurn {i : Nat} {e : DictEntry} {u : PUnit} (he : sa[i]? = some e) (hent : ∃ k t v, e = ent k t v) (hn : ∀ e' ∈ es, e'.hash ≠ e.hash) (ha : Nat.ble n₀ L.length = true) (hz : es.length ≤ sizeLine) :
    R p w n₀ ann cb ce f0 6 (ST life gs dr os (L ++ dob es ep :: (S ++ [dob sa ea])) tk) q (mBody L.length (L.length + 1 + S.length) ea i u) (ST life gs dr os (L ++ dob (es ++ [e]) (ep + 1) :: (S ++ [dob sa ea])) tk) q (.yield PUnit.unit) := by
  obtain ⟨k, t, v, rfl⟩ := hent
  unfold mBody
  refine R.bindM (n := 1) (n' := 5) (rx_entries get_sub) ?_
  rw [List.getElem?_toArray, he]
  dsimp only
  refine R.bindM (n := 4) (n' := 1) (R.holding (R.dictPut hn ha hz)) ?_
  refine R.bindM (n := 1) (n' := 0) (rx_epoch get_sub) ?_
  rw [if_neg (by simp)]
  exact R.pure _
theorem rx_mLoop (hent : ∀ e ∈ sa, ∃ k t v, e = ent k t v) (ha : Nat.ble n₀ L.length = true) : ∀ (m i : Nat) (es : List DictEntry) (ep : Nat), i + m = sa.length → (es.map (·.hash) ++ (sa.drop i).map (·.hash)).Nodup → es.length + m ≤ sizeLine →
    R p w n₀ ann cb ce f0 (6 * m) (ST life gs dr os (L ++ dob es ep :: (S ++ [dob sa ea])) tk) q (forIn (List.range' i m) PUnit.unit (mBody L.length (L.length + 1 + S.length) ea)) (ST life gs dr os (L ++ dob (es ++ sa.drop i) (ep + m) :: (S ++ [dob sa ea])) tk) q PUnit.unit
  | 0, i, es, ep, hi, _, _ => by
    rw [List.drop_of_length_le (by omega), List.append_nil]
    exact rx_forIn_nil
  | m + 1, i, es, ep, hi, nd, sz => by
    have hlt : i < sa.length := by omega
    have hd : sa.drop i = sa[i] :: sa.drop (i + 1) := List.drop_eq_getElem_cons hlt
    rw [hd, List.map_cons] at nd
    have ih := rx_mLoop hent ha m (i + 1) (es ++ [sa[i]]) (ep + 1) (by omega) (by rw [List.map_append, List.append_assoc]; exact nd) (by simp only [List.length_append, List.length_cons, List.length_nil]; omega)
    rw [hd, show 6 * (m + 1) = 6 + 6 * m by omega, show ep + (m + 1) = ep + 1 + m by omega, List.range'_succ, show es ++ sa[i] :: sa.drop (i + 1) = (es ++ [sa[i]]) ++ sa.drop (i + 1) by simp]
    refine rx_forIn_cons ?_ ih
    exact rx_mTurn (List.getElem?_eq_getElem hlt) (hent _ (List.getElem_mem hlt)) (hash_off nd) ha (by omega)
theorem rx_merge (hent : ∀ e ∈ sa, ∃ k t v, e = ent k t v) (ha : Nat.ble n₀ L.length = true) (hne : es ≠ []) (hsys : (L.length + 1 + S.length == sysModules) = false) (nd : (es.map (·.hash) ++ sa.map (·.hash)).Nodup) (sz : es.length + sa.length ≤ sizeLine) :
    R p w n₀ ann cb ce f0 (5 + 6 * sa.length) (ST life gs dr os (L ++ dob es ep :: (S ++ [dob sa ea])) tk) q (mergeMapping L.length (.ref (L.length + 1 + S.length)) false) (ST life gs dr os (L ++ dob (es ++ sa) (ep + sa.length) :: (S ++ [dob sa ea])) tk) q () := by
  unfold mergeMapping
  rw [show 5 + 6 * sa.length = 1 + (1 + (0 + (1 + (1 + (1 + (6 * sa.length + 0)))))) by omega]
  have hty : ∀ {s : Shared}, s.heap.get? (L.length + 1 + S.length) = some (dob sa ea) → R p w n₀ ann cb ce f0 1 s q (typeOf (.ref (L.length + 1 + S.length))) s q (.type "dict") := fun h => by
    unfold typeOf
    exact R.bindM (n := 1) (n' := 0) (R.load h) (R.pure _)
  refine R.bindM (a := true) (n := 1) (s1 := ST life gs dr os (L ++ dob es ep :: (S ++ [dob sa ea])) tk) (q1 := q) ?_ ?_
  · unfold isInstance
    exact R.bindM (n := 1) (n' := 0) (hty get_sub) (by rw [isSub_dict]; exact R.pure _)
  · dsimp only
    rw [if_pos rfl]
    refine R.bindM (a := some (.builtin "dict.__iter__")) (n := 1) (s1 := ST life gs dr os (L ++ dob es ep :: (S ++ [dob sa ea])) tk) (q1 := q) ?_ ?_
    · unfold specialOf
      exact R.bindM (n := 1) (n' := 0) (hty get_sub) (by rw [iter_dict]; exact R.pure _)
    · rw [show ((some (Value.builtin "dict.__iter__") : Option Value) == some (Value.builtin "dict.__iter__")) = true by simp]
      refine R.bindM (n := 0) (a := true) (s1 := ST life gs dr os (L ++ dob es ep :: (S ++ [dob sa ea])) tk) (q1 := q) (R.pure _) ?_
      dsimp only
      rw [hsys, if_neg (by decide)]
      refine R.bindM (n := 1) (rx_entries get_list) ?_
      rw [if_neg (by cases es with | nil => exact absurd rfl hne | cons _ _ => simp)]
      refine R.bindM (n := 1) (rx_entries get_sub) ?_
      refine R.bindM (n := 1) (rx_epoch get_sub) ?_
      refine R.bindM (n := 6 * sa.length) (n' := 0) (a := PUnit.unit) ?_ (R.pure _)
      have := rx_mLoop (p := p) (w := w) (ann := ann) (cb := cb) (ce := ce) (f0 := f0) (life := life) (gs := gs) (dr := dr) (os := os) (q := q) (tk := tk) (S := S) (ea := ea) hent ha sa.length 0 es ep (Nat.zero_add _) (by rw [List.drop_zero]; exact nd) sz
      rw [List.drop_zero, ← List.range_eq_range'] at this
      rw [List.size_toArray]
      exact this
end
end Mine
end

section
open PySem PySem.W PyProof.Rows PySem.Spec
set_option Elab.async false
set_option maxRecDepth 100000
namespace Mine
noncomputable abbrev SV := Sem Value × Sem Value
/-- a part's end in a display -/
noncomputable def flushD (run : List SV) (main : Option Addr) : Sem (Option Addr) :=
  if run.isEmpty = true then pure main
  else
    match main with
    | none => do
      let x ← subDict run
      pure (some x)
    | some d => do
      let sub ← holding [Value.ref d] (subDict run)
      (holding [Value.ref d, Value.ref sub] (mergeMapping d (Value.ref sub) false)).onRaise fun x => do
        let _ ← holding [Value.ref d, x] (runValue (Code.builtin "proto.let_go" {}))
        pure ()
      pure (some d)
noncomputable abbrev DF := Option (Sem Value) × Sem Value → Option Addr × List SV → Sem (ForInStep (Option Addr × List SV))
noncomputable abbrev DFok (f : DF) : Prop := ∀ k v main run, f (some k, v) (main, run) = if ((run ++ [(k, v)]).length == 17) = true then (do let m ← flushD (run ++ [(k, v)]) main; pure (.yield (m, []))) else pure (.yield (main, run ++ [(k, v)]))
section
variable {p : Program} {w : World} {n₀ : Nat} {ann : Option Value} {cb : List Stmt} {ce : Env} {f0 : Frame} {life : Life} {gs : Array GenState} {dr : Drawn} {os : OsState}
variable {L S : List Obj} {es sa : List DictEntry} {ep ea tk : Nat} {q pos : Pos} {f : DF}
noncomputable abbrev itT (pos : Pos) (e : Int × Str) : Option (Sem Value) × Sem Value := (some (kvT pos e).1, (kvT pos e).2)
theorem rx_chunk (hf : DFok f) {rest : List (Option (Sem Value) × Sem Value)} {n n' : Nat} {s s1 s2 : Shared} {q1 q2 : Pos} {m : Option Addr} {r : Option Addr × List SV} {main : Option Addr} :
    ∀ (c : List (Int × Str)) (run : List SV), 0 < c.length → run.length + c.length = 17 → R p w n₀ ann cb ce f0 n s q (flushD (run ++ c.map (kvT pos)) main) s1 q1 m → R p w n₀ ann cb ce f0 n' s1 q1 (forIn rest (m, []) f) s2 q2 r →
      R p w n₀ ann cb ce f0 (n + n') s q (forIn (c.map (itT pos) ++ rest) (main, run) f) s2 q2 r
  | [x], run, _, h, hF, hR => by
    rw [List.map_cons, List.map_nil, List.cons_append, List.nil_append]
    refine rx_forIn_cons ?_ hR
    rw [hf, if_pos (by simp only [List.length_append, List.length_cons, List.length_nil] at h ⊢; rw [h]; rfl)]
    exact R.bindM (n' := 0) hF (R.pure _)
  | x :: y :: c, run, _, h, hF, hR => by
    rw [List.map_cons, List.cons_append]
    have := rx_chunk hf (y :: c) (run ++ [kvT pos x]) (Nat.succ_pos _) (by simp only [List.length_append, List.length_cons, List.length_nil] at h ⊢; omega) (by rw [List.append_assoc]; exact hF) hR
    rw [← Nat.zero_add (n + n')]
    refine rx_forIn_cons (n := 0) (s1 := s) (q1 := q) (b1 := (main, run ++ [kvT pos x])) ?_ this
    rw [hf, if_neg (by simp only [List.length_append, List.length_cons, List.length_nil] at h ⊢; simp only [beq_iff_eq]; omega)]
    exact R.pure _
theorem rx_tail (hf : DFok f) {s : Shared} {main : Option Addr} : ∀ (c : List (Int × Str)) (run : List SV), run.length + c.length < 17 → R p w n₀ ann cb ce f0 0 s q (forIn (c.map (itT pos)) (main, run) f) s q (main, run ++ c.map (kvT pos))
  | [], run, _ => by rw [List.map_nil, List.map_nil, List.append_nil]; exact rx_forIn_nil
  | x :: c, run, h => by
    rw [List.map_cons, List.map_cons]
    have := rx_tail hf (s := s) (main := main) c (run ++ [kvT pos x]) (by simp only [List.length_append, List.length_cons, List.length_nil] at h ⊢; omega)
    rw [List.append_assoc] at this
    refine rx_forIn_cons (n := 0) (n' := 0) (b1 := (main, run ++ [kvT pos x])) ?_ this
    rw [hf, if_neg (by simp only [List.length_append, List.length_cons, List.length_nil] at h ⊢; simp only [beq_iff_eq]; omega)]
    exact R.pure _
theorem subE_app : ∀ (t : Nat) (a b : List (Int × Str)), subE t (a ++ b) = subE t a ++ subE (t + 3 * a.length) b
  | t, [], b => rfl
  | t, (i, x) :: r, b => by rw [List.cons_append, subE, subE, subE_app (t + 3) r b, List.cons_append, List.length_cons, show t + 3 + 3 * r.length = t + 3 * (r.length + 1) by omega]
/-- the parts' dicts, left behind -/
noncomputable def subsO : Nat → List (List (Int × Str)) → List Obj
  | _, [] => []
  | t, c :: r => dob (subE t c) c.length :: subsO (t + 3 * c.length) r
noncomputable abbrev hkeys (l : List (Int × Str)) : List Int := l.map fun e => hashInt e.1
theorem rx_flushMain {c : List (Int × Str)} (hc : c.length = 17) (ha : Nat.ble n₀ L.length = true) (hsys : sysModules ≤ L.length) (hne : es ≠ []) (nd : (es.map (·.hash) ++ hkeys c).Nodup) (sz : es.length + c.length ≤ sizeLine) :
    R p w n₀ ann cb ce f0 (2 + 13 * c.length + (5 + 6 * c.length)) (ST life gs dr os (L ++ dob es ep :: S) tk) q (flushD (c.map (kvT pos)) (some L.length))
      (ST life gs dr os (L ++ dob (es ++ subE tk c) (ep + c.length) :: (S ++ [dob (subE tk c) c.length])) (tk + 3 * c.length)) pos (some L.length) := by
  unfold flushD
  rw [if_neg (by cases c with | nil => simp at hc | cons _ _ => simp)]
  dsimp only
  have hl : (L ++ dob es ep :: S).length = L.length + 1 + S.length := by simp; omega
  have h1 := rx_subLong (p := p) (w := w) (n₀ := n₀) (ann := ann) (cb := cb) (ce := ce) (f0 := f0) (life := life) (gs := gs) (dr := dr) (os := os) (L := L ++ dob es ep :: S) (tk := tk) (q := q) (pos := pos) (l := c) (by omega) (by rw [hl]; exact Nat.ble_eq_true_of_le (by have := Nat.le_of_ble_eq_true ha; omega)) (List.nodup_append.mp nd).2.1 (by omega)
  rw [hl, show (L ++ dob es ep :: S) ++ [dob (subE tk c) c.length] = L ++ dob es ep :: (S ++ [dob (subE tk c) c.length]) by simp] at h1
  refine R.bindM (R.holding h1) ?_
  have h2 := rx_merge (p := p) (w := w) (n₀ := n₀) (ann := ann) (cb := cb) (ce := ce) (f0 := f0) (life := life) (gs := gs) (dr := dr) (os := os) (L := L) (S := S) (es := es) (ep := ep) (sa := subE tk c) (ea := c.length) (tk := tk + 3 * c.length) (q := pos) (subE_ent tk c) ha hne (beq_eq_false_iff_ne.mpr (Nat.ne_of_gt (Nat.lt_of_le_of_lt hsys (show L.length < L.length + 1 + S.length by omega)))) (by rw [subE_hash]; exact nd) (by rw [subE_len]; exact sz)
  rw [subE_len] at h2
  exact R.bindM (n' := 0) (R.onRaise (R.holding h2)) (R.pure _)
theorem rx_chunks (hf : DFok f) (ha : Nat.ble n₀ L.length = true) (hsys : sysModules ≤ L.length) {last : List (Int × Str)} (hl : last.length < 17) :
    ∀ (cs : List (List (Int × Str))) (es : List DictEntry) (ep tk : Nat) (S : List Obj), (∀ c ∈ cs, c.length = 17) → es ≠ [] → (es.map (·.hash) ++ hkeys cs.flatten).Nodup → es.length + cs.flatten.length ≤ sizeLine →
      R p w n₀ ann cb ce f0 (330 * cs.length) (ST life gs dr os (L ++ dob es ep :: S) tk) pos (forIn (cs.flatten.map (itT pos) ++ last.map (itT pos)) (some L.length, []) f)
        (ST life gs dr os (L ++ dob (es ++ subE tk cs.flatten) (ep + cs.flatten.length) :: (S ++ subsO tk cs)) (tk + 3 * cs.flatten.length)) pos (some L.length, last.map (kvT pos))
  | [], es, ep, tk, S, _, _, _, _ => by
    have := rx_tail (p := p) (w := w) (n₀ := n₀) (ann := ann) (cb := cb) (ce := ce) (f0 := f0) (q := pos) (pos := pos) hf (s := ST life gs dr os (L ++ dob es ep :: S) tk) (main := some L.length) last [] (by simpa using hl)
    simpa [subE, subsO] using this
  | c :: cs, es, ep, tk, S, h17, hne, nd, sz => by
    have hc := h17 c (.head _)
    rw [List.flatten_cons] at nd sz ⊢
    have nd' : (es.map (·.hash) ++ (hkeys c ++ hkeys cs.flatten)).Nodup := by rw [hkeys, List.map_append] at nd; exact nd
    rw [List.length_append] at sz
    have h1 := rx_flushMain (p := p) (w := w) (n₀ := n₀) (ann := ann) (cb := cb) (ce := ce) (f0 := f0) (life := life) (gs := gs) (dr := dr) (os := os) (L := L) (S := S) (ep := ep) (tk := tk) (q := pos) (pos := pos) hc ha hsys hne (by
      rw [← List.append_assoc] at nd'; exact (List.nodup_append.mp nd').1) (by omega)
    have ih := rx_chunks hf ha hsys hl cs (es ++ subE tk c) (ep + c.length) (tk + 3 * c.length) (S ++ [dob (subE tk c) c.length]) (fun c' h' => h17 c' (.tail _ h')) (by simp [hne]) (by
      rw [List.map_append, subE_hash, List.append_assoc]; exact nd') (by rw [List.length_append, subE_len]; omega)
    rw [show 330 * (c :: cs).length = (2 + 13 * c.length + (5 + 6 * c.length)) + 330 * cs.length by rw [List.length_cons, hc]; omega, List.map_append, List.append_assoc, subE_app, subsO, List.length_append,
      show ep + (c.length + cs.flatten.length) = ep + c.length + cs.flatten.length by omega, show tk + 3 * (c.length + cs.flatten.length) = tk + 3 * c.length + 3 * cs.flatten.length by omega, ← List.append_assoc es, show S ++ dob (subE tk c) c.length :: subsO (tk + 3 * c.length) cs = (S ++ [dob (subE tk c) c.length]) ++ subsO (tk + 3 * c.length) cs by simp]
    exact rx_chunk hf c [] (by omega) (by simpa using hc) (by simpa using h1) ih
end
end Mine
end

section
open PySem PySem.W PyProof.Rows PySem.Spec
set_option Elab.async false
set_option maxRecDepth 100000
namespace Mine
section
variable {p : Program} {w : World} {n₀ : Nat} {ann : Option Value} {cb : List Stmt} {ce : Env} {f0 : Frame} {life : Life} {gs : Array GenState} {dr : Drawn} {os : OsState}
variable {L : List Obj} {tk : Nat} {pos : Pos}
theorem rx_flushLast {S : List Obj} {es : List DictEntry} {ep : Nat} {c : List (Int × Str)} (h0 : 0 < c.length) (h15 : c.length ≤ 15) (ha : Nat.ble n₀ L.length = true) (hsys : sysModules ≤ L.length) (hne : es ≠ []) (nd : (es.map (·.hash) ++ hkeys c).Nodup) (sz : es.length + c.length ≤ sizeLine) :
    R p w n₀ ann cb ce f0 (1 + 13 * c.length + (5 + 6 * c.length)) (ST life gs dr os (L ++ dob es ep :: S) tk) pos (flushD (c.map (kvT pos)) (some L.length))
      (ST life gs dr os (L ++ dob (es ++ endE tk c) (ep + c.length) :: (S ++ [dob (endE tk c) c.length])) (tk + 3 * c.length)) pos (some L.length) := by
  unfold flushD
  rw [if_neg (by cases c with | nil => simp at h0 | cons _ _ => simp)]
  dsimp only
  have hl : (L ++ dob es ep :: S).length = L.length + 1 + S.length := by simp; omega
  have h1 := rx_subShort (p := p) (w := w) (n₀ := n₀) (ann := ann) (cb := cb) (ce := ce) (f0 := f0) (life := life) (gs := gs) (dr := dr) (os := os) (L := L ++ dob es ep :: S) (tk := tk) (q := pos) (pos := pos) (l := c) h15 h0 (by rw [hl]; exact Nat.ble_eq_true_of_le (by have := Nat.le_of_ble_eq_true ha; omega)) (List.nodup_append.mp nd).2.1
  rw [hl, show (L ++ dob es ep :: S) ++ [dob (endE tk c) c.length] = L ++ dob es ep :: (S ++ [dob (endE tk c) c.length]) by simp] at h1
  refine R.bindM (R.holding h1) ?_
  have h2 := rx_merge (p := p) (w := w) (n₀ := n₀) (ann := ann) (cb := cb) (ce := ce) (f0 := f0) (life := life) (gs := gs) (dr := dr) (os := os) (L := L) (S := S) (es := es) (ep := ep) (sa := endE tk c) (ea := c.length) (tk := tk + 3 * c.length) (q := pos) (endE_ent tk c) ha hne (beq_eq_false_iff_ne.mpr (Nat.ne_of_gt (Nat.lt_of_le_of_lt hsys (show L.length < L.length + 1 + S.length by omega)))) (by rw [endE_hash]; exact nd) (by rw [endE_len]; exact sz)
  rw [endE_len] at h2
  exact R.bindM (n' := 0) (R.onRaise (R.holding h2)) (R.pure _)
theorem rx_display {c0 : List (Int × Str)} {cs : List (List (Int × Str))} {last : List (Int × Str)} (h0 : c0.length = 17) (h17 : ∀ c ∈ cs, c.length = 17) (hl0 : 0 < last.length) (hl : last.length ≤ 15) (ha : Nat.ble n₀ L.length = true) (hsys : sysModules ≤ L.length)
    (nd : (hkeys (c0 ++ (cs.flatten ++ last))).Nodup) (sz : (c0 ++ (cs.flatten ++ last)).length ≤ sizeLine) :
    R p w n₀ ann cb ce f0 (2 + 13 * c0.length + (330 * cs.length + (1 + 13 * last.length + (5 + 6 * last.length)))) (ST life gs dr os L tk) pos (dictDisplay ((c0 ++ (cs.flatten ++ last)).map (itT pos)))
      (ST life gs dr os (L ++ dob (subE tk (c0 ++ cs.flatten) ++ endE (tk + 3 * (c0 ++ cs.flatten).length) last) (c0 ++ (cs.flatten ++ last)).length :: (subsO (tk + 3 * c0.length) cs ++ [dob (endE (tk + 3 * (c0 ++ cs.flatten).length) last) last.length])) (tk + 3 * (c0 ++ (cs.flatten ++ last)).length)) pos (.ref L.length) := by
  have nd' : (hkeys c0 ++ (hkeys cs.flatten ++ hkeys last)).Nodup := by
    rw [hkeys, List.map_append, List.map_append] at nd; exact nd
  have nd1 : (hkeys c0 ++ hkeys cs.flatten).Nodup := by rw [← List.append_assoc] at nd'; exact (List.nodup_append.mp nd').1
  simp only [List.length_append] at sz
  unfold dictDisplay
  dsimp only
  rw [List.map_append, List.map_append]
  have hsub := rx_subLong (p := p) (w := w) (n₀ := n₀) (ann := ann) (cb := cb) (ce := ce) (f0 := f0) (life := life) (gs := gs) (dr := dr) (os := os) (L := L) (tk := tk) (q := pos) (pos := pos) (l := c0) (by omega) ha (List.nodup_append.mp nd').1 (by omega)
  have hf0 : R p w n₀ ann cb ce f0 (2 + 13 * c0.length) (ST life gs dr os L tk) pos (flushD (c0.map (kvT pos)) none) (ST life gs dr os (L ++ dob (subE tk c0) c0.length :: []) (tk + 3 * c0.length)) pos (some L.length) := by
    unfold flushD
    rw [if_neg (by cases c0 with | nil => simp at h0 | cons _ _ => simp)]
    exact R.bindM (n' := 0) hsub (R.pure _)
  have hmid := fun f hf => rx_chunks (p := p) (w := w) (n₀ := n₀) (ann := ann) (cb := cb) (ce := ce) (f0 := f0) (life := life) (gs := gs) (dr := dr) (os := os) (L := L) (pos := pos) (f := f) hf ha hsys (last := last) (by omega) cs (subE tk c0) c0.length (tk + 3 * c0.length) [] h17
    (by cases c0 with | nil => simp at h0 | cons a r => obtain ⟨i, x⟩ := a; simp [subE]) (by rw [subE_hash]; exact nd1) (by rw [subE_len]; omega)
  rw [show 2 + 13 * c0.length + (330 * cs.length + (1 + 13 * last.length + (5 + 6 * last.length))) = (2 + 13 * c0.length + 330 * cs.length) + (1 + 13 * last.length + (5 + 6 * last.length)) by omega]
  refine R.bindM (rx_chunk (fun _ _ _ _ => rfl) c0 [] (by omega) (by simpa using h0) (by simpa using hf0) (hmid _ (fun _ _ _ _ => rfl))) ?_
  dsimp only
  have hlast := rx_flushLast (p := p) (w := w) (n₀ := n₀) (ann := ann) (cb := cb) (ce := ce) (f0 := f0) (life := life) (gs := gs) (dr := dr) (os := os) (L := L) (S := [] ++ subsO (tk + 3 * c0.length) cs) (es := subE tk c0 ++ subE (tk + 3 * c0.length) cs.flatten) (ep := c0.length + cs.flatten.length) (tk := tk + 3 * c0.length + 3 * cs.flatten.length) (pos := pos) hl0 hl ha hsys
    (by cases c0 with | nil => simp at h0 | cons a r => obtain ⟨i, x⟩ := a; simp [subE]) (by rw [List.map_append, subE_hash, subE_hash, List.append_assoc]; exact nd') (by rw [List.length_append, subE_len, subE_len]; omega)
  have e1 : tk + 3 * c0.length + 3 * cs.flatten.length = tk + 3 * (c0 ++ cs.flatten).length := by rw [List.length_append]; omega
  have e2 : tk + 3 * (c0 ++ cs.flatten).length + 3 * last.length = tk + 3 * (c0 ++ (cs.flatten ++ last)).length := by simp only [List.length_append]; omega
  have e3 : c0.length + cs.flatten.length + last.length = (c0 ++ (cs.flatten ++ last)).length := by simp only [List.length_append]; omega
  rw [e1] at hlast ⊢
  rw [e2, e3, ← subE_app, List.nil_append] at hlast
  rw [← subE_app, List.nil_append]
  exact R.bindM (n' := 0) hlast (R.pure _)
end
end Mine
end

section
open PySem PySem.W PyProof.Rows
set_option Elab.async false
set_option maxRecDepth 100000
set_option maxHeartbeats 0
namespace Mine
/-- what the top keeps of the i-th statement's def -/
noncomputable def fnR (i : Nat) : Obj := match nthS Challenge.pw_sh0048_01.main.body i with
  | .FunctionDef name args body _ _ _ scope _ _ _ => { cls := .none, dict := none, data := .func { name := name, qualname := name, params := args, body := .stmts body, scope := scope, globals := 0, closure := [], defaults := .none, kwdefaults := .none }, slots := #[] }
  | _ => default
noncomputable def kvGo : List (Option PySem.Expr) → List PySem.Expr → List (Int × Str)
  | some (.Constant (.int i) _ _) :: ks, .Constant (.str x) _ _ :: vs => (i, x) :: kvGo ks vs
  | _, _ => []
/-- the pairs of table B.3, as written -/
noncomputable def KV : List (Int × Str) := match nthS Challenge.pw_sh0048_01.main.body 6 with
  | .Assign _ (.Dict ks vs _) _ => kvGo ks vs
  | _ => []
noncomputable def sbO (j : Nat) : Obj := dob (subE (331 + 51 * j) ((KV.drop (17 * (j + 1))).take 17)) 17
noncomputable def sbE : Obj := dob (endE 2218 (KV.drop 646)) 4
noncomputable def lf : Life := PySem.Life.mk [] [] [] 0 [] [] Bool.false #[] [] 0 Bool.false Bool.false Bool.false 0 [2000, 10, 10] Bool.false 0 Bool.true [] [] 0 Bool.false
noncomputable def dr0 : Drawn := Drawn.mk 0 0 0 0
noncomputable def ho0 (_ : Params) : Obj := PySem.Obj.mk (PySem.Value.type "code") Option.none (PySem.Data.fields #[PySem.Value.str (PySem.Str.ofString "<module>") 182, PySem.Value.str (PySem.Str.ofString "<module>") 183, PySem.Value.str (PySem.Str.ofString "/claim/cut.py") 184, PySem.Value.int 1 0, PySem.Value.int 0 0, PySem.Value.int 0 0, PySem.Value.int 0 0, PySem.Value.int 0 0, PySem.Value.ref 11, PySem.Value.bool Bool.false, PySem.Value.int 181 0, PySem.Value.ref 12, PySem.Value.none, PySem.Value.none, PySem.Value.none, PySem.Value.none, PySem.Value.int 185 0, PySem.Value.int 1 0, PySem.Value.str (PySem.Str.ofString "/claim/cut.py") 186]) #[]
noncomputable def ho1 (_ : Params) : Obj := PySem.Obj.mk (PySem.Value.type "frame") Option.none PySem.Data.plain #[Option.some (PySem.Value.ref 13), Option.some (PySem.Value.ref 3), Option.some (PySem.Value.ref 3), Option.none, Option.some (PySem.Value.str (PySem.Str.ofString "__main__") 164), Option.none, Option.some (PySem.Value.ref 0)]
noncomputable def ho5 (_ : Params) : Obj := fnR 1
noncomputable def ho7 (_ : Params) : Obj := PySem.Obj.mk PySem.Value.none Option.none (PySem.Data.fields #[PySem.Value.int 2 0, PySem.Value.int 0 0, PySem.Value.ref 20, PySem.Value.int 15 0, PySem.Value.int 0 0, PySem.Value.ref 27]) #[]
noncomputable def ho8 (_ : Params) : Obj := fnR 2
noncomputable def ho9 (P : Params) : Obj := PySem.Obj.mk (PySem.Value.type "dict") Option.none (PySem.Data.dict #[PySem.DictEntry.mk (PySem.PyData.keyHash P (PySem.Str.ofString "__name__")) (PySem.Value.str (PySem.Str.ofString "__name__") 165) (PySem.Value.str (PySem.Str.ofString "cpy313.stringprep") 211), PySem.DictEntry.mk (PySem.PyData.keyHash P (PySem.Str.ofString "__doc__")) (PySem.Value.str (PySem.Str.ofString "__doc__") 166) PySem.Value.none, PySem.DictEntry.mk (PySem.PyData.keyHash P (PySem.Str.ofString "__package__")) (PySem.Value.str (PySem.Str.ofString "__package__") 167) PySem.Value.none, PySem.DictEntry.mk (PySem.PyData.keyHash P (PySem.Str.ofString "__loader__")) (PySem.Value.str (PySem.Str.ofString "__loader__") 168) (PySem.Value.builtin "__main__.__loader__#opaque"), PySem.DictEntry.mk (PySem.PyData.keyHash P (PySem.Str.ofString "__spec__")) (PySem.Value.str (PySem.Str.ofString "__spec__") 169) PySem.Value.none, PySem.DictEntry.mk (PySem.PyData.keyHash P (PySem.Str.ofString "__annotations__")) (PySem.Value.str (PySem.Str.ofString "__annotations__") 170) (PySem.Value.ref 6), PySem.DictEntry.mk (PySem.PyData.keyHash P (PySem.Str.ofString "__builtins__")) (PySem.Value.str (PySem.Str.ofString "__builtins__") 171) (PySem.Value.ref 4), PySem.DictEntry.mk (PySem.PyData.keyHash P (PySem.Str.ofString "__file__")) (PySem.Value.str (PySem.Str.ofString "__file__") 173) (PySem.Value.str (PySem.Str.ofString "/claim/cut.py") 172), PySem.DictEntry.mk (PySem.PyData.keyHash P (PySem.Str.ofString "__cached__")) (PySem.Value.str (PySem.Str.ofString "__cached__") 174) PySem.Value.none, PySem.DictEntry.mk (PySem.PyData.keyHash P (PySem.Str.ofString "_iter_escaped_chars")) (PySem.Value.str (PySem.Str.ofString "_iter_escaped_chars") 198) (PySem.Value.ref 21), PySem.DictEntry.mk (PySem.PyData.keyHash P (PySem.Str.ofString "_strip_quoted_realnames")) (PySem.Value.str (PySem.Str.ofString "_strip_quoted_realnames") 210) (PySem.Value.ref 28)] 11) #[]
noncomputable def ho10 (P : Params) : Obj := PySem.Obj.mk (PySem.Value.type "dict") Option.none (PySem.Data.dict #[PySem.DictEntry.mk (PySem.PyData.keyHash P (PySem.Str.ofString "__name__")) (PySem.Value.str (PySem.Str.ofString "__name__") 165) (PySem.Value.str (PySem.Str.ofString "cpy313.stringprep") 211), PySem.DictEntry.mk (PySem.PyData.keyHash P (PySem.Str.ofString "__doc__")) (PySem.Value.str (PySem.Str.ofString "__doc__") 166) PySem.Value.none, PySem.DictEntry.mk (PySem.PyData.keyHash P (PySem.Str.ofString "__package__")) (PySem.Value.str (PySem.Str.ofString "__package__") 167) PySem.Value.none, PySem.DictEntry.mk (PySem.PyData.keyHash P (PySem.Str.ofString "__loader__")) (PySem.Value.str (PySem.Str.ofString "__loader__") 168) (PySem.Value.builtin "__main__.__loader__#opaque"), PySem.DictEntry.mk (PySem.PyData.keyHash P (PySem.Str.ofString "__spec__")) (PySem.Value.str (PySem.Str.ofString "__spec__") 169) PySem.Value.none, PySem.DictEntry.mk (PySem.PyData.keyHash P (PySem.Str.ofString "__annotations__")) (PySem.Value.str (PySem.Str.ofString "__annotations__") 170) (PySem.Value.ref 6), PySem.DictEntry.mk (PySem.PyData.keyHash P (PySem.Str.ofString "__builtins__")) (PySem.Value.str (PySem.Str.ofString "__builtins__") 171) (PySem.Value.ref 4), PySem.DictEntry.mk (PySem.PyData.keyHash P (PySem.Str.ofString "__file__")) (PySem.Value.str (PySem.Str.ofString "__file__") 173) (PySem.Value.str (PySem.Str.ofString "/claim/cut.py") 172), PySem.DictEntry.mk (PySem.PyData.keyHash P (PySem.Str.ofString "__cached__")) (PySem.Value.str (PySem.Str.ofString "__cached__") 174) PySem.Value.none, PySem.DictEntry.mk (PySem.PyData.keyHash P (PySem.Str.ofString "_iter_escaped_chars")) (PySem.Value.str (PySem.Str.ofString "_iter_escaped_chars") 198) (PySem.Value.ref 21), PySem.DictEntry.mk (PySem.PyData.keyHash P (PySem.Str.ofString "_strip_quoted_realnames")) (PySem.Value.str (PySem.Str.ofString "_strip_quoted_realnames") 210) (PySem.Value.ref 28), PySem.DictEntry.mk (PySem.PyData.keyHash P (PySem.Str.ofString "b1_set")) (PySem.Value.str (PySem.Str.ofString "b1_set") 272) (PySem.Value.ref 36)] 12) #[]
noncomputable def ho11 (_ : Params) : Obj := PySem.Obj.mk (PySem.Value.type "list") Option.none (PySem.Data.seq #[PySem.Value.int 173 213, PySem.Value.int 847 214, PySem.Value.int 6150 215, PySem.Value.int 6155 216, PySem.Value.int 6156 217, PySem.Value.int 6157 218, PySem.Value.int 8203 219, PySem.Value.int 8204 220, PySem.Value.int 8205 221, PySem.Value.int 8288 222, PySem.Value.int 65279 223]) #[]
noncomputable def ho12 (_ : Params) : Obj := PySem.Obj.mk (PySem.Value.type "range") Option.none (PySem.Data.fields #[PySem.Value.int 65024 224, PySem.Value.int 65040 225, PySem.Value.int 1 226]) #[]
noncomputable def ho13 (_ : Params) : Obj := PySem.Obj.mk (PySem.Value.type "list") Option.none (PySem.Data.seq #[PySem.Value.int 65024 229, PySem.Value.int 65025 230, PySem.Value.int 65026 231, PySem.Value.int 65027 232, PySem.Value.int 65028 233, PySem.Value.int 65029 234, PySem.Value.int 65030 235, PySem.Value.int 65031 236, PySem.Value.int 65032 237, PySem.Value.int 65033 238, PySem.Value.int 65034 239, PySem.Value.int 65035 240, PySem.Value.int 65036 241, PySem.Value.int 65037 242, PySem.Value.int 65038 243, PySem.Value.int 65039 244] 18) #[]
noncomputable def ho14 (_ : Params) : Obj := PySem.Obj.mk (PySem.Value.type "range_iterator") Option.none (PySem.Data.fields #[PySem.Value.int 65040 0, PySem.Value.int 0 0, PySem.Value.int 1 0]) #[]
noncomputable def ho15 (_ : Params) : Obj := PySem.Obj.mk (PySem.Value.type "StopIteration") Option.none (PySem.Data.fields #[PySem.Value.ref 33, PySem.Value.none, PySem.Value.none, PySem.Value.none, PySem.Value.bool Bool.false, PySem.Value.none]) #[]
noncomputable def ho16 (_ : Params) : Obj := PySem.Obj.mk (PySem.Value.type "list") Option.none (PySem.Data.seq #[PySem.Value.int 173 213, PySem.Value.int 847 214, PySem.Value.int 6150 215, PySem.Value.int 6155 216, PySem.Value.int 6156 217, PySem.Value.int 6157 218, PySem.Value.int 8203 219, PySem.Value.int 8204 220, PySem.Value.int 8205 221, PySem.Value.int 8288 222, PySem.Value.int 65279 223, PySem.Value.int 65024 229, PySem.Value.int 65025 230, PySem.Value.int 65026 231, PySem.Value.int 65027 232, PySem.Value.int 65028 233, PySem.Value.int 65029 234, PySem.Value.int 65030 235, PySem.Value.int 65031 236, PySem.Value.int 65032 237, PySem.Value.int 65033 238, PySem.Value.int 65034 239, PySem.Value.int 65035 240, PySem.Value.int 65036 241, PySem.Value.int 65037 242, PySem.Value.int 65038 243, PySem.Value.int 65039 244]) #[]
noncomputable def ho17 (_ : Params) : Obj := PySem.Obj.mk (PySem.Value.type "list_iterator") Option.none (PySem.Data.fields #[PySem.Value.none, PySem.Value.int 27 0]) #[]
noncomputable def ho18 (_ : Params) : Obj := PySem.Obj.mk (PySem.Value.type "StopIteration") Option.none (PySem.Data.fields #[PySem.Value.ref 38, PySem.Value.none, PySem.Value.none, PySem.Value.none, PySem.Value.bool Bool.false, PySem.Value.none]) #[]
noncomputable def ho19 (P : Params) : Obj := PySem.Obj.mk (PySem.Value.type "dict") Option.none (PySem.Data.dict #[PySem.DictEntry.mk (PySem.PyData.keyHash P (PySem.Str.ofString "__name__")) (PySem.Value.str (PySem.Str.ofString "__name__") 165) (PySem.Value.str (PySem.Str.ofString "cpy313.stringprep") 211), PySem.DictEntry.mk (PySem.PyData.keyHash P (PySem.Str.ofString "__doc__")) (PySem.Value.str (PySem.Str.ofString "__doc__") 166) PySem.Value.none, PySem.DictEntry.mk (PySem.PyData.keyHash P (PySem.Str.ofString "__package__")) (PySem.Value.str (PySem.Str.ofString "__package__") 167) PySem.Value.none, PySem.DictEntry.mk (PySem.PyData.keyHash P (PySem.Str.ofString "__loader__")) (PySem.Value.str (PySem.Str.ofString "__loader__") 168) (PySem.Value.builtin "__main__.__loader__#opaque"), PySem.DictEntry.mk (PySem.PyData.keyHash P (PySem.Str.ofString "__spec__")) (PySem.Value.str (PySem.Str.ofString "__spec__") 169) PySem.Value.none, PySem.DictEntry.mk (PySem.PyData.keyHash P (PySem.Str.ofString "__annotations__")) (PySem.Value.str (PySem.Str.ofString "__annotations__") 170) (PySem.Value.ref 6), PySem.DictEntry.mk (PySem.PyData.keyHash P (PySem.Str.ofString "__builtins__")) (PySem.Value.str (PySem.Str.ofString "__builtins__") 171) (PySem.Value.ref 4), PySem.DictEntry.mk (PySem.PyData.keyHash P (PySem.Str.ofString "__file__")) (PySem.Value.str (PySem.Str.ofString "__file__") 173) (PySem.Value.str (PySem.Str.ofString "/claim/cut.py") 172), PySem.DictEntry.mk (PySem.PyData.keyHash P (PySem.Str.ofString "__cached__")) (PySem.Value.str (PySem.Str.ofString "__cached__") 174) PySem.Value.none, PySem.DictEntry.mk (PySem.PyData.keyHash P (PySem.Str.ofString "_iter_escaped_chars")) (PySem.Value.str (PySem.Str.ofString "_iter_escaped_chars") 198) (PySem.Value.ref 21), PySem.DictEntry.mk (PySem.PyData.keyHash P (PySem.Str.ofString "_strip_quoted_realnames")) (PySem.Value.str (PySem.Str.ofString "_strip_quoted_realnames") 210) (PySem.Value.ref 28), PySem.DictEntry.mk (PySem.PyData.keyHash P (PySem.Str.ofString "b1_set")) (PySem.Value.str (PySem.Str.ofString "b1_set") 272) (PySem.Value.ref 36), PySem.DictEntry.mk (PySem.PyData.keyHash P (PySem.Str.ofString "in_table_b1")) (PySem.Value.str (PySem.Str.ofString "in_table_b1") 279) (PySem.Value.ref 46)] 13) #[]
noncomputable def ho20 (_ : Params) : Obj := PySem.Obj.mk PySem.Value.none Option.none (PySem.Data.fields #[PySem.Value.int 2 0, PySem.Value.int 0 0, PySem.Value.ref 20, PySem.Value.int 15 0, PySem.Value.int 0 0, PySem.Value.ref 27, PySem.Value.int 35 0, PySem.Value.int 0 0, PySem.Value.ref 45]) #[]
noncomputable def ho21 (_ : Params) : Obj := fnR 5
noncomputable def ho22 (P : Params) : Obj := PySem.Obj.mk (PySem.Value.type "dict") Option.none (PySem.Data.dict #[PySem.DictEntry.mk (PySem.PyData.keyHash P (PySem.Str.ofString "__name__")) (PySem.Value.str (PySem.Str.ofString "__name__") 165) (PySem.Value.str (PySem.Str.ofString "cpy313.stringprep") 211), PySem.DictEntry.mk (PySem.PyData.keyHash P (PySem.Str.ofString "__doc__")) (PySem.Value.str (PySem.Str.ofString "__doc__") 166) PySem.Value.none, PySem.DictEntry.mk (PySem.PyData.keyHash P (PySem.Str.ofString "__package__")) (PySem.Value.str (PySem.Str.ofString "__package__") 167) PySem.Value.none, PySem.DictEntry.mk (PySem.PyData.keyHash P (PySem.Str.ofString "__loader__")) (PySem.Value.str (PySem.Str.ofString "__loader__") 168) (PySem.Value.builtin "__main__.__loader__#opaque"), PySem.DictEntry.mk (PySem.PyData.keyHash P (PySem.Str.ofString "__spec__")) (PySem.Value.str (PySem.Str.ofString "__spec__") 169) PySem.Value.none, PySem.DictEntry.mk (PySem.PyData.keyHash P (PySem.Str.ofString "__annotations__")) (PySem.Value.str (PySem.Str.ofString "__annotations__") 170) (PySem.Value.ref 6), PySem.DictEntry.mk (PySem.PyData.keyHash P (PySem.Str.ofString "__builtins__")) (PySem.Value.str (PySem.Str.ofString "__builtins__") 171) (PySem.Value.ref 4), PySem.DictEntry.mk (PySem.PyData.keyHash P (PySem.Str.ofString "__file__")) (PySem.Value.str (PySem.Str.ofString "__file__") 173) (PySem.Value.str (PySem.Str.ofString "/claim/cut.py") 172), PySem.DictEntry.mk (PySem.PyData.keyHash P (PySem.Str.ofString "__cached__")) (PySem.Value.str (PySem.Str.ofString "__cached__") 174) PySem.Value.none, PySem.DictEntry.mk (PySem.PyData.keyHash P (PySem.Str.ofString "_iter_escaped_chars")) (PySem.Value.str (PySem.Str.ofString "_iter_escaped_chars") 198) (PySem.Value.ref 21), PySem.DictEntry.mk (PySem.PyData.keyHash P (PySem.Str.ofString "_strip_quoted_realnames")) (PySem.Value.str (PySem.Str.ofString "_strip_quoted_realnames") 210) (PySem.Value.ref 28), PySem.DictEntry.mk (PySem.PyData.keyHash P (PySem.Str.ofString "b1_set")) (PySem.Value.str (PySem.Str.ofString "b1_set") 272) (PySem.Value.ref 36), PySem.DictEntry.mk (PySem.PyData.keyHash P (PySem.Str.ofString "in_table_b1")) (PySem.Value.str (PySem.Str.ofString "in_table_b1") 279) (PySem.Value.ref 46), PySem.DictEntry.mk (PySem.PyData.keyHash P (PySem.Str.ofString "b3_exceptions")) (PySem.Value.str (PySem.Str.ofString "b3_exceptions") 2230) (PySem.Value.ref 47)] 14) #[]
noncomputable def ho25 (_ : Params) : Obj := fnR 7
noncomputable def ho31 (_ : Params) : Obj := fnR 11
noncomputable def ho34 (_ : Params) : Obj := fnR 12
noncomputable def ho37 (_ : Params) : Obj := fnR 13
noncomputable def ho42 (P : Params) : Obj := PySem.Obj.mk (PySem.Value.type "dict") Option.none (PySem.Data.dict #[PySem.DictEntry.mk (PySem.PyData.keyHash P (PySem.Str.ofString "__name__")) (PySem.Value.str (PySem.Str.ofString "__name__") 165) (PySem.Value.str (PySem.Str.ofString "cpy313.traceback") 2266), PySem.DictEntry.mk (PySem.PyData.keyHash P (PySem.Str.ofString "__doc__")) (PySem.Value.str (PySem.Str.ofString "__doc__") 166) PySem.Value.none, PySem.DictEntry.mk (PySem.PyData.keyHash P (PySem.Str.ofString "__package__")) (PySem.Value.str (PySem.Str.ofString "__package__") 167) PySem.Value.none, PySem.DictEntry.mk (PySem.PyData.keyHash P (PySem.Str.ofString "__loader__")) (PySem.Value.str (PySem.Str.ofString "__loader__") 168) (PySem.Value.builtin "__main__.__loader__#opaque"), PySem.DictEntry.mk (PySem.PyData.keyHash P (PySem.Str.ofString "__spec__")) (PySem.Value.str (PySem.Str.ofString "__spec__") 169) PySem.Value.none, PySem.DictEntry.mk (PySem.PyData.keyHash P (PySem.Str.ofString "__annotations__")) (PySem.Value.str (PySem.Str.ofString "__annotations__") 170) (PySem.Value.ref 6), PySem.DictEntry.mk (PySem.PyData.keyHash P (PySem.Str.ofString "__builtins__")) (PySem.Value.str (PySem.Str.ofString "__builtins__") 171) (PySem.Value.ref 4), PySem.DictEntry.mk (PySem.PyData.keyHash P (PySem.Str.ofString "__file__")) (PySem.Value.str (PySem.Str.ofString "__file__") 173) (PySem.Value.str (PySem.Str.ofString "/claim/cut.py") 172), PySem.DictEntry.mk (PySem.PyData.keyHash P (PySem.Str.ofString "__cached__")) (PySem.Value.str (PySem.Str.ofString "__cached__") 174) PySem.Value.none, PySem.DictEntry.mk (PySem.PyData.keyHash P (PySem.Str.ofString "_iter_escaped_chars")) (PySem.Value.str (PySem.Str.ofString "_iter_escaped_chars") 198) (PySem.Value.ref 21), PySem.DictEntry.mk (PySem.PyData.keyHash P (PySem.Str.ofString "_strip_quoted_realnames")) (PySem.Value.str (PySem.Str.ofString "_strip_quoted_realnames") 210) (PySem.Value.ref 28), PySem.DictEntry.mk (PySem.PyData.keyHash P (PySem.Str.ofString "b1_set")) (PySem.Value.str (PySem.Str.ofString "b1_set") 272) (PySem.Value.ref 36), PySem.DictEntry.mk (PySem.PyData.keyHash P (PySem.Str.ofString "in_table_b1")) (PySem.Value.str (PySem.Str.ofString "in_table_b1") 279) (PySem.Value.ref 46), PySem.DictEntry.mk (PySem.PyData.keyHash P (PySem.Str.ofString "b3_exceptions")) (PySem.Value.str (PySem.Str.ofString "b3_exceptions") 2230) (PySem.Value.ref 47), PySem.DictEntry.mk (PySem.PyData.keyHash P (PySem.Str.ofString "map_table_b3")) (PySem.Value.str (PySem.Str.ofString "map_table_b3") 2238) (PySem.Value.ref 92), PySem.DictEntry.mk (PySem.PyData.keyHash P (PySem.Str.ofString "ENDMARKER")) (PySem.Value.str (PySem.Str.ofString "ENDMARKER") 2242) (PySem.Value.int 0 2241), PySem.DictEntry.mk (PySem.PyData.keyHash P (PySem.Str.ofString "NT_OFFSET")) (PySem.Value.str (PySem.Str.ofString "NT_OFFSET") 2244) (PySem.Value.int 256 2243), PySem.DictEntry.mk (PySem.PyData.keyHash P (PySem.Str.ofString "ISTERMINAL")) (PySem.Value.str (PySem.Str.ofString "ISTERMINAL") 2251) (PySem.Value.ref 99), PySem.DictEntry.mk (PySem.PyData.keyHash P (PySem.Str.ofString "ISNONTERMINAL")) (PySem.Value.str (PySem.Str.ofString "ISNONTERMINAL") 2258) (PySem.Value.ref 106), PySem.DictEntry.mk (PySem.PyData.keyHash P (PySem.Str.ofString "ISEOF")) (PySem.Value.str (PySem.Str.ofString "ISEOF") 2265) (PySem.Value.ref 113), PySem.DictEntry.mk (PySem.PyData.keyHash P (PySem.Str.ofString "_MAX_STRING_SIZE")) (PySem.Value.str (PySem.Str.ofString "_MAX_STRING_SIZE") 2269) (PySem.Value.int 40 2268), PySem.DictEntry.mk (PySem.PyData.keyHash P (PySem.Str.ofString "_MOVE_COST")) (PySem.Value.str (PySem.Str.ofString "_MOVE_COST") 2271) (PySem.Value.int 2 2270), PySem.DictEntry.mk (PySem.PyData.keyHash P (PySem.Str.ofString "_CASE_COST")) (PySem.Value.str (PySem.Str.ofString "_CASE_COST") 2273) (PySem.Value.int 1 2272), PySem.DictEntry.mk (PySem.PyData.keyHash P (PySem.Str.ofString "_substitution_cost")) (PySem.Value.str (PySem.Str.ofString "_substitution_cost") 2281) (PySem.Value.ref 120)] 24) #[]
noncomputable def ho43 (_ : Params) : Obj := PySem.Obj.mk PySem.Value.none Option.none (PySem.Data.fields #[PySem.Value.int 2 0, PySem.Value.int 0 0, PySem.Value.ref 20, PySem.Value.int 15 0, PySem.Value.int 0 0, PySem.Value.ref 27, PySem.Value.int 35 0, PySem.Value.int 0 0, PySem.Value.ref 45, PySem.Value.int 38 0, PySem.Value.int 0 0, PySem.Value.ref 91, PySem.Value.int 46 0, PySem.Value.int 0 0, PySem.Value.ref 98, PySem.Value.int 48 0, PySem.Value.int 0 0, PySem.Value.ref 105, PySem.Value.int 50 0, PySem.Value.int 0 0, PySem.Value.ref 112, PySem.Value.int 56 0, PySem.Value.int 0 0, PySem.Value.ref 119]) #[]
noncomputable def ho44 (_ : Params) : Obj := fnR 18
noncomputable def ho47 (_ : Params) : Obj := fnR 19
noncomputable def ho51 (_ : Params) : Obj := fnR 21
noncomputable def ho54 (_ : Params) : Obj := fnR 22
noncomputable def ho57 (_ : Params) : Obj := fnR 23
noncomputable def ho60 (_ : Params) : Obj := fnR 24
noncomputable def ho63 (_ : Params) : Obj := fnR 25
noncomputable def ho66 (_ : Params) : Obj := fnR 26
noncomputable def ho69 (_ : Params) : Obj := fnR 27
noncomputable def ho72 (_ : Params) : Obj := fnR 28
noncomputable def ho73 (_ : Params) : Obj := PySem.Obj.mk PySem.Value.none Option.none (PySem.Data.fields #[PySem.Value.int 2 0, PySem.Value.int 0 0, PySem.Value.ref 20, PySem.Value.int 15 0, PySem.Value.int 0 0, PySem.Value.ref 27, PySem.Value.int 35 0, PySem.Value.int 0 0, PySem.Value.ref 45, PySem.Value.int 38 0, PySem.Value.int 0 0, PySem.Value.ref 91, PySem.Value.int 46 0, PySem.Value.int 0 0, PySem.Value.ref 98, PySem.Value.int 48 0, PySem.Value.int 0 0, PySem.Value.ref 105, PySem.Value.int 50 0, PySem.Value.int 0 0, PySem.Value.ref 112, PySem.Value.int 56 0, PySem.Value.int 0 0, PySem.Value.ref 119, PySem.Value.int 62 0, PySem.Value.int 0 0, PySem.Value.ref 126, PySem.Value.int 101 0, PySem.Value.int 0 0, PySem.Value.ref 133, PySem.Value.int 106 0, PySem.Value.int 0 0, PySem.Value.ref 140, PySem.Value.int 113 0, PySem.Value.int 0 0, PySem.Value.ref 145, PySem.Value.int 120 0, PySem.Value.int 0 0, PySem.Value.ref 150, PySem.Value.int 123 0, PySem.Value.int 0 0, PySem.Value.ref 155, PySem.Value.int 125 0, PySem.Value.int 0 0, PySem.Value.ref 160, PySem.Value.int 129 0, PySem.Value.int 0 0, PySem.Value.ref 167, PySem.Value.int 131 0, PySem.Value.int 0 0, PySem.Value.ref 172, PySem.Value.int 133 0, PySem.Value.int 0 0, PySem.Value.ref 177]) #[]
noncomputable def ho74 (_ : Params) : Obj := fnR 29
noncomputable def tr_pre (P : Params) : BT := (BT.node (boot_o_0 P) (BT.node (boot_o_1 P) (BT.node (boot_o_3 P) (BT.node (boot_o_7 P) BT.nil BT.nil) (BT.node (boot_o_7 P) BT.nil BT.nil)) (BT.node (boot_o_5 P) (BT.node (boot_o_9 P) BT.nil BT.nil) (BT.node (ho0 P) BT.nil BT.nil))) (BT.node (boot_o_2 P) (BT.node (boot_o_4 P) (BT.node (boot_o_8 P) BT.nil BT.nil) (BT.node (boot_o_8 P) BT.nil BT.nil)) (BT.node (boot_o_6 P) (BT.node (boot_o_10 P) BT.nil BT.nil) (BT.node (ho1 P) BT.nil BT.nil))))
noncomputable def hl_pre (P : Params) : List Obj := [boot_o_0 P, boot_o_1 P, boot_o_2 P, boot_o_3 P, boot_o_4 P, boot_o_5 P, boot_o_6 P, boot_o_7 P, boot_o_8 P, boot_o_9 P, boot_o_10 P, boot_o_7 P, boot_o_8 P, ho0 P, ho1 P]
theorem tl_pre (P : Params) : (tr_pre P).list 15 = hl_pre P := by kernel_rfl!
noncomputable def tr_p3 (P : Params) : BT := (BT.node (boot_o_0 P) (BT.node (boot_o_1 P) (BT.node (ho9 P) (BT.node (boot_o_7 P) (BT.node (boot_o_7 P) BT.nil BT.nil) (BT.node (boot_o_8 P) BT.nil BT.nil)) (BT.node (boot_o_7 P) (BT.node (ho5 P) BT.nil BT.nil) (BT.node (k27 P) BT.nil BT.nil))) (BT.node (boot_o_5 P) (BT.node (boot_o_9 P) (BT.node (k17 P) BT.nil BT.nil) (BT.node (boot_o_7 P) BT.nil BT.nil)) (BT.node (ho0 P) (BT.node (fnO 1 (Value.str (Str.ofString "cpy313.email.utils") 187) (Value.ref 20)) BT.nil BT.nil) BT.nil))) (BT.node (boot_o_2 P) (BT.node (boot_o_4 P) (BT.node (boot_o_8 P) (BT.node (boot_o_8 P) BT.nil BT.nil) (BT.node (k24 P) BT.nil BT.nil)) (BT.node (ho7 P) (BT.node (k20 P) BT.nil BT.nil) (BT.node (fnO 2 (Value.str (Str.ofString "cpy313.email.utils") 187) (Value.ref 27)) BT.nil BT.nil))) (BT.node (boot_o_6 P) (BT.node (boot_o_10 P) (BT.node (boot_o_7 P) BT.nil BT.nil) (BT.node (ho8 P) BT.nil BT.nil)) (BT.node (ho1 P) (BT.node (boot_o_7 P) BT.nil BT.nil) BT.nil))))
noncomputable def hl_p3 (P : Params) : List Obj := [boot_o_0 P, boot_o_1 P, boot_o_2 P, ho9 P, boot_o_4 P, boot_o_5 P, boot_o_6 P, boot_o_7 P, boot_o_8 P, boot_o_9 P, boot_o_10 P, boot_o_7 P, ho7 P, ho0 P, ho1 P, boot_o_7 P, boot_o_8 P, k17 P, boot_o_7 P, ho5 P, k20 P, fnO 1 (Value.str (Str.ofString "cpy313.email.utils") 187) (Value.ref 20), boot_o_7 P, boot_o_8 P, k24 P, boot_o_7 P, ho8 P, k27 P, fnO 2 (Value.str (Str.ofString "cpy313.email.utils") 187) (Value.ref 27)]
theorem tl_p3 (P : Params) : (tr_p3 P).list 29 = hl_p3 P := by kernel_rfl!
noncomputable def tr_p4 (P : Params) : BT := (BT.node (boot_o_0 P) (BT.node (boot_o_1 P) (BT.node (ho10 P) (BT.node (boot_o_7 P) (BT.node (boot_o_7 P) (BT.node (ho13 P) BT.nil BT.nil) BT.nil) (BT.node (boot_o_8 P) (BT.node (ho18 P) BT.nil BT.nil) BT.nil)) (BT.node (boot_o_7 P) (BT.node (ho5 P) (BT.node (ho16 P) BT.nil BT.nil) BT.nil) (BT.node (k27 P) BT.nil BT.nil))) (BT.node (boot_o_5 P) (BT.node (boot_o_9 P) (BT.node (k17 P) (BT.node (boot_o_7 P) BT.nil BT.nil) BT.nil) (BT.node (boot_o_7 P) BT.nil BT.nil)) (BT.node (ho0 P) (BT.node (fnO 1 (Value.str (Str.ofString "cpy313.email.utils") 187) (Value.ref 20)) (BT.node (ho17 P) BT.nil BT.nil) BT.nil) (BT.node (ho11 P) BT.nil BT.nil)))) (BT.node (boot_o_2 P) (BT.node (boot_o_4 P) (BT.node (boot_o_8 P) (BT.node (boot_o_8 P) (BT.node (ho14 P) BT.nil BT.nil) BT.nil) (BT.node (k24 P) BT.nil BT.nil)) (BT.node (ho7 P) (BT.node (k20 P) (BT.node (b1O (!P.followText "set-order")) BT.nil BT.nil) BT.nil) (BT.node (fnO 2 (Value.str (Str.ofString "cpy313.email.utils") 187) (Value.ref 27)) BT.nil BT.nil))) (BT.node (boot_o_6 P) (BT.node (boot_o_10 P) (BT.node (boot_o_7 P) (BT.node (ho15 P) BT.nil BT.nil) BT.nil) (BT.node (ho8 P) BT.nil BT.nil)) (BT.node (ho1 P) (BT.node (boot_o_7 P) (BT.node (boot_o_7 P) BT.nil BT.nil) BT.nil) (BT.node (ho12 P) BT.nil BT.nil)))))
noncomputable def hl_p4 (P : Params) : List Obj := [boot_o_0 P, boot_o_1 P, boot_o_2 P, ho10 P, boot_o_4 P, boot_o_5 P, boot_o_6 P, boot_o_7 P, boot_o_8 P, boot_o_9 P, boot_o_10 P, boot_o_7 P, ho7 P, ho0 P, ho1 P, boot_o_7 P, boot_o_8 P, k17 P, boot_o_7 P, ho5 P, k20 P, fnO 1 (Value.str (Str.ofString "cpy313.email.utils") 187) (Value.ref 20), boot_o_7 P, boot_o_8 P, k24 P, boot_o_7 P, ho8 P, k27 P, fnO 2 (Value.str (Str.ofString "cpy313.email.utils") 187) (Value.ref 27), ho11 P, ho12 P, ho13 P, ho14 P, boot_o_7 P, ho15 P, ho16 P, b1O (!P.followText "set-order"), ho17 P, boot_o_7 P, ho18 P]
theorem tl_p4 (P : Params) : (tr_p4 P).list 40 = hl_p4 P := by kernel_rfl!
noncomputable def tr_p5 (P : Params) : BT := (BT.node (boot_o_0 P) (BT.node (boot_o_1 P) (BT.node (ho19 P) (BT.node (boot_o_7 P) (BT.node (boot_o_7 P) (BT.node (ho13 P) BT.nil BT.nil) BT.nil) (BT.node (boot_o_8 P) (BT.node (ho18 P) BT.nil BT.nil) BT.nil)) (BT.node (boot_o_7 P) (BT.node (ho5 P) (BT.node (ho16 P) BT.nil BT.nil) BT.nil) (BT.node (k27 P) (BT.node (boot_o_7 P) BT.nil BT.nil) BT.nil))) (BT.node (boot_o_5 P) (BT.node (boot_o_9 P) (BT.node (k17 P) (BT.node (boot_o_7 P) BT.nil BT.nil) BT.nil) (BT.node (boot_o_7 P) (BT.node (boot_o_8 P) BT.nil BT.nil) BT.nil)) (BT.node (ho0 P) (BT.node (fnO 1 (Value.str (Str.ofString "cpy313.email.utils") 187) (Value.ref 20)) (BT.node (ho17 P) BT.nil BT.nil) BT.nil) (BT.node (ho11 P) (BT.node (k45 P) BT.nil BT.nil) BT.nil)))) (BT.node (boot_o_2 P) (BT.node (boot_o_4 P) (BT.node (boot_o_8 P) (BT.node (boot_o_8 P) (BT.node (ho14 P) BT.nil BT.nil) BT.nil) (BT.node (k24 P) (BT.node (boot_o_7 P) BT.nil BT.nil) BT.nil)) (BT.node (ho20 P) (BT.node (k20 P) (BT.node (b1O (!P.followText "set-order")) BT.nil BT.nil) BT.nil) (BT.node (fnO 2 (Value.str (Str.ofString "cpy313.email.utils") 187) (Value.ref 27)) (BT.node (ho21 P) BT.nil BT.nil) BT.nil))) (BT.node (boot_o_6 P) (BT.node (boot_o_10 P) (BT.node (boot_o_7 P) (BT.node (ho15 P) BT.nil BT.nil) BT.nil) (BT.node (ho8 P) (BT.node (k42 P) BT.nil BT.nil) BT.nil)) (BT.node (ho1 P) (BT.node (boot_o_7 P) (BT.node (boot_o_7 P) BT.nil BT.nil) BT.nil) (BT.node (ho12 P) (BT.node (fnO 5 (Value.str (Str.ofString "cpy313.stringprep") 211) (Value.ref 45)) BT.nil BT.nil) BT.nil)))))
noncomputable def hl_p5 (P : Params) : List Obj := [boot_o_0 P, boot_o_1 P, boot_o_2 P, ho19 P, boot_o_4 P, boot_o_5 P, boot_o_6 P, boot_o_7 P, boot_o_8 P, boot_o_9 P, boot_o_10 P, boot_o_7 P, ho20 P, ho0 P, ho1 P, boot_o_7 P, boot_o_8 P, k17 P, boot_o_7 P, ho5 P, k20 P, fnO 1 (Value.str (Str.ofString "cpy313.email.utils") 187) (Value.ref 20), boot_o_7 P, boot_o_8 P, k24 P, boot_o_7 P, ho8 P, k27 P, fnO 2 (Value.str (Str.ofString "cpy313.email.utils") 187) (Value.ref 27), ho11 P, ho12 P, ho13 P, ho14 P, boot_o_7 P, ho15 P, ho16 P, b1O (!P.followText "set-order"), ho17 P, boot_o_7 P, ho18 P, boot_o_7 P, boot_o_8 P, k42 P, boot_o_7 P, ho21 P, k45 P, fnO 5 (Value.str (Str.ofString "cpy313.stringprep") 211) (Value.ref 45)]
theorem tl_p5 (P : Params) : (tr_p5 P).list 47 = hl_p5 P := by kernel_rfl!
noncomputable def tr_p6 (P : Params) : BT := (BT.node (boot_o_0 P) (BT.node (boot_o_1 P) (BT.node (ho22 P) (BT.node (boot_o_7 P) (BT.node (boot_o_7 P) (BT.node (ho13 P) (BT.node (sbO 15) BT.nil BT.nil) BT.nil) (BT.node (b3O) (BT.node (sbO 31) BT.nil BT.nil) BT.nil)) (BT.node (boot_o_8 P) (BT.node (ho18 P) (BT.node (sbO 23) BT.nil BT.nil) BT.nil) (BT.node (sbO 7) BT.nil BT.nil))) (BT.node (boot_o_7 P) (BT.node (ho5 P) (BT.node (ho16 P) (BT.node (sbO 19) BT.nil BT.nil) BT.nil) (BT.node (sbO 3) (BT.node (sbO 35) BT.nil BT.nil) BT.nil)) (BT.node (k27 P) (BT.node (boot_o_7 P) (BT.node (sbO 27) BT.nil BT.nil) BT.nil) (BT.node (sbO 11) BT.nil BT.nil)))) (BT.node (boot_o_5 P) (BT.node (boot_o_9 P) (BT.node (k17 P) (BT.node (boot_o_7 P) (BT.node (sbO 17) BT.nil BT.nil) BT.nil) (BT.node (sbO 1) (BT.node (sbO 33) BT.nil BT.nil) BT.nil)) (BT.node (boot_o_7 P) (BT.node (boot_o_8 P) (BT.node (sbO 25) BT.nil BT.nil) BT.nil) (BT.node (sbO 9) BT.nil BT.nil))) (BT.node (ho0 P) (BT.node (fnO 1 (Value.str (Str.ofString "cpy313.email.utils") 187) (Value.ref 20)) (BT.node (ho17 P) (BT.node (sbO 21) BT.nil BT.nil) BT.nil) (BT.node (sbO 5) (BT.node (sbE) BT.nil BT.nil) BT.nil)) (BT.node (ho11 P) (BT.node (k45 P) (BT.node (sbO 29) BT.nil BT.nil) BT.nil) (BT.node (sbO 13) BT.nil BT.nil))))) (BT.node (boot_o_2 P) (BT.node (boot_o_4 P) (BT.node (boot_o_8 P) (BT.node (boot_o_8 P) (BT.node (ho14 P) (BT.node (sbO 16) BT.nil BT.nil) BT.nil) (BT.node (sbO 0) (BT.node (sbO 32) BT.nil BT.nil) BT.nil)) (BT.node (k24 P) (BT.node (boot_o_7 P) (BT.node (sbO 24) BT.nil BT.nil) BT.nil) (BT.node (sbO 8) BT.nil BT.nil))) (BT.node (ho20 P) (BT.node (k20 P) (BT.node (b1O (!P.followText "set-order")) (BT.node (sbO 20) BT.nil BT.nil) BT.nil) (BT.node (sbO 4) (BT.node (sbO 36) BT.nil BT.nil) BT.nil)) (BT.node (fnO 2 (Value.str (Str.ofString "cpy313.email.utils") 187) (Value.ref 27)) (BT.node (ho21 P) (BT.node (sbO 28) BT.nil BT.nil) BT.nil) (BT.node (sbO 12) BT.nil BT.nil)))) (BT.node (boot_o_6 P) (BT.node (boot_o_10 P) (BT.node (boot_o_7 P) (BT.node (ho15 P) (BT.node (sbO 18) BT.nil BT.nil) BT.nil) (BT.node (sbO 2) (BT.node (sbO 34) BT.nil BT.nil) BT.nil)) (BT.node (ho8 P) (BT.node (k42 P) (BT.node (sbO 26) BT.nil BT.nil) BT.nil) (BT.node (sbO 10) BT.nil BT.nil))) (BT.node (ho1 P) (BT.node (boot_o_7 P) (BT.node (boot_o_7 P) (BT.node (sbO 22) BT.nil BT.nil) BT.nil) (BT.node (sbO 6) BT.nil BT.nil)) (BT.node (ho12 P) (BT.node (fnO 5 (Value.str (Str.ofString "cpy313.stringprep") 211) (Value.ref 45)) (BT.node (sbO 30) BT.nil BT.nil) BT.nil) (BT.node (sbO 14) BT.nil BT.nil))))))
noncomputable def hl_p6 (P : Params) : List Obj := [boot_o_0 P, boot_o_1 P, boot_o_2 P, ho22 P, boot_o_4 P, boot_o_5 P, boot_o_6 P, boot_o_7 P, boot_o_8 P, boot_o_9 P, boot_o_10 P, boot_o_7 P, ho20 P, ho0 P, ho1 P, boot_o_7 P, boot_o_8 P, k17 P, boot_o_7 P, ho5 P, k20 P, fnO 1 (Value.str (Str.ofString "cpy313.email.utils") 187) (Value.ref 20), boot_o_7 P, boot_o_8 P, k24 P, boot_o_7 P, ho8 P, k27 P, fnO 2 (Value.str (Str.ofString "cpy313.email.utils") 187) (Value.ref 27), ho11 P, ho12 P, ho13 P, ho14 P, boot_o_7 P, ho15 P, ho16 P, b1O (!P.followText "set-order"), ho17 P, boot_o_7 P, ho18 P, boot_o_7 P, boot_o_8 P, k42 P, boot_o_7 P, ho21 P, k45 P, fnO 5 (Value.str (Str.ofString "cpy313.stringprep") 211) (Value.ref 45), b3O, sbO 0, sbO 1, sbO 2, sbO 3, sbO 4, sbO 5, sbO 6, sbO 7, sbO 8, sbO 9, sbO 10, sbO 11, sbO 12, sbO 13, sbO 14, sbO 15, sbO 16, sbO 17, sbO 18, sbO 19, sbO 20, sbO 21, sbO 22, sbO 23, sbO 24, sbO 25, sbO 26, sbO 27, sbO 28, sbO 29, sbO 30, sbO 31, sbO 32, sbO 33, sbO 34, sbO 35, sbO 36, sbE]
theorem tl_p6 (P : Params) : (tr_p6 P).list 86 = hl_p6 P := by kernel_rfl!
noncomputable def tr_p18 (P : Params) : BT := (BT.node (boot_o_0 P) (BT.node (boot_o_1 P) (BT.node (ho42 P) (BT.node (boot_o_7 P) (BT.node (boot_o_7 P) (BT.node (ho13 P) (BT.node (sbO 15) BT.nil BT.nil) (BT.node (k95 P) BT.nil BT.nil)) (BT.node (b3O) (BT.node (sbO 31) BT.nil BT.nil) (BT.node (ho37 P) BT.nil BT.nil))) (BT.node (boot_o_8 P) (BT.node (ho18 P) (BT.node (sbO 23) BT.nil BT.nil) (BT.node (boot_o_7 P) BT.nil BT.nil)) (BT.node (sbO 7) (BT.node (boot_o_8 P) BT.nil BT.nil) (BT.node (k119 P) BT.nil BT.nil)))) (BT.node (boot_o_7 P) (BT.node (ho5 P) (BT.node (ho16 P) (BT.node (sbO 19) BT.nil BT.nil) (BT.node (fnO 11 (Value.str (Str.ofString "cpy313.token") 2239) (Value.ref 98)) BT.nil BT.nil)) (BT.node (sbO 3) (BT.node (sbO 35) BT.nil BT.nil) (BT.node (boot_o_8 P) BT.nil BT.nil))) (BT.node (k27 P) (BT.node (boot_o_7 P) (BT.node (sbO 27) BT.nil BT.nil) (BT.node (boot_o_7 P) BT.nil BT.nil)) (BT.node (sbO 11) (BT.node (k91 P) BT.nil BT.nil) BT.nil)))) (BT.node (boot_o_5 P) (BT.node (boot_o_9 P) (BT.node (k17 P) (BT.node (boot_o_7 P) (BT.node (sbO 17) BT.nil BT.nil) (BT.node (ho31 P) BT.nil BT.nil)) (BT.node (sbO 1) (BT.node (sbO 33) BT.nil BT.nil) (BT.node (fnO 13 (Value.str (Str.ofString "cpy313.token") 2239) (Value.ref 112)) BT.nil BT.nil))) (BT.node (boot_o_7 P) (BT.node (boot_o_8 P) (BT.node (sbO 25) BT.nil BT.nil) (BT.node (k105 P) BT.nil BT.nil)) (BT.node (sbO 9) (BT.node (boot_o_7 P) BT.nil BT.nil) BT.nil))) (BT.node (ho0 P) (BT.node (fnO 1 (Value.str (Str.ofString "cpy313.email.utils") 187) (Value.ref 20)) (BT.node (ho17 P) (BT.node (sbO 21) BT.nil BT.nil) (BT.node (boot_o_8 P) BT.nil BT.nil)) (BT.node (sbO 5) (BT.node (sbE) BT.nil BT.nil) (BT.node (boot_o_7 P) BT.nil BT.nil))) (BT.node (ho11 P) (BT.node (k45 P) (BT.node (sbO 29) BT.nil BT.nil) (BT.node (k109 P) BT.nil BT.nil)) (BT.node (sbO 13) (BT.node (boot_o_7 P) BT.nil BT.nil) BT.nil))))) (BT.node (boot_o_2 P) (BT.node (boot_o_4 P) (BT.node (boot_o_8 P) (BT.node (boot_o_8 P) (BT.node (ho14 P) (BT.node (sbO 16) BT.nil BT.nil) (BT.node (boot_o_7 P) BT.nil BT.nil)) (BT.node (sbO 0) (BT.node (sbO 32) BT.nil BT.nil) (BT.node (k112 P) BT.nil BT.nil))) (BT.node (k24 P) (BT.node (boot_o_7 P) (BT.node (sbO 24) BT.nil BT.nil) (BT.node (ho34 P) BT.nil BT.nil)) (BT.node (sbO 8) (BT.node (k88 P) BT.nil BT.nil) (BT.node (fnO 18 (Value.str (Str.ofString "cpy313.traceback") 2266) (Value.ref 119)) BT.nil BT.nil)))) (BT.node (ho43 P) (BT.node (k20 P) (BT.node (b1O (!P.followText "set-order")) (BT.node (sbO 20) BT.nil BT.nil) (BT.node (boot_o_7 P) BT.nil BT.nil)) (BT.node (sbO 4) (BT.node (sbO 36) BT.nil BT.nil) (BT.node (k116 P) BT.nil BT.nil))) (BT.node (fnO 2 (Value.str (Str.ofString "cpy313.email.utils") 187) (Value.ref 27)) (BT.node (ho21 P) (BT.node (sbO 28) BT.nil BT.nil) (BT.node (boot_o_8 P) BT.nil BT.nil)) (BT.node (sbO 12) (BT.node (fnO 7 (Value.str (Str.ofString "cpy313.stringprep") 211) (Value.ref 91)) BT.nil BT.nil) BT.nil)))) (BT.node (boot_o_6 P) (BT.node (boot_o_10 P) (BT.node (boot_o_7 P) (BT.node (ho15 P) (BT.node (sbO 18) BT.nil BT.nil) (BT.node (k98 P) BT.nil BT.nil)) (BT.node (sbO 2) (BT.node (sbO 34) BT.nil BT.nil) (BT.node (boot_o_7 P) BT.nil BT.nil))) (BT.node (ho8 P) (BT.node (k42 P) (BT.node (sbO 26) BT.nil BT.nil) (BT.node (fnO 12 (Value.str (Str.ofString "cpy313.token") 2239) (Value.ref 105)) BT.nil BT.nil)) (BT.node (sbO 10) (BT.node (ho25 P) BT.nil BT.nil) BT.nil))) (BT.node (ho1 P) (BT.node (boot_o_7 P) (BT.node (boot_o_7 P) (BT.node (sbO 22) BT.nil BT.nil) (BT.node (k102 P) BT.nil BT.nil)) (BT.node (sbO 6) (BT.node (boot_o_7 P) BT.nil BT.nil) (BT.node (ho44 P) BT.nil BT.nil))) (BT.node (ho12 P) (BT.node (fnO 5 (Value.str (Str.ofString "cpy313.stringprep") 211) (Value.ref 45)) (BT.node (sbO 30) BT.nil BT.nil) (BT.node (boot_o_7 P) BT.nil BT.nil)) (BT.node (sbO 14) (BT.node (boot_o_8 P) BT.nil BT.nil) BT.nil))))))
noncomputable def hl_p18 (P : Params) : List Obj := [boot_o_0 P, boot_o_1 P, boot_o_2 P, ho42 P, boot_o_4 P, boot_o_5 P, boot_o_6 P, boot_o_7 P, boot_o_8 P, boot_o_9 P, boot_o_10 P, boot_o_7 P, ho43 P, ho0 P, ho1 P, boot_o_7 P, boot_o_8 P, k17 P, boot_o_7 P, ho5 P, k20 P, fnO 1 (Value.str (Str.ofString "cpy313.email.utils") 187) (Value.ref 20), boot_o_7 P, boot_o_8 P, k24 P, boot_o_7 P, ho8 P, k27 P, fnO 2 (Value.str (Str.ofString "cpy313.email.utils") 187) (Value.ref 27), ho11 P, ho12 P, ho13 P, ho14 P, boot_o_7 P, ho15 P, ho16 P, b1O (!P.followText "set-order"), ho17 P, boot_o_7 P, ho18 P, boot_o_7 P, boot_o_8 P, k42 P, boot_o_7 P, ho21 P, k45 P, fnO 5 (Value.str (Str.ofString "cpy313.stringprep") 211) (Value.ref 45), b3O, sbO 0, sbO 1, sbO 2, sbO 3, sbO 4, sbO 5, sbO 6, sbO 7, sbO 8, sbO 9, sbO 10, sbO 11, sbO 12, sbO 13, sbO 14, sbO 15, sbO 16, sbO 17, sbO 18, sbO 19, sbO 20, sbO 21, sbO 22, sbO 23, sbO 24, sbO 25, sbO 26, sbO 27, sbO 28, sbO 29, sbO 30, sbO 31, sbO 32, sbO 33, sbO 34, sbO 35, sbO 36, sbE, boot_o_7 P, boot_o_8 P, k88 P, boot_o_7 P, ho25 P, k91 P, fnO 7 (Value.str (Str.ofString "cpy313.stringprep") 211) (Value.ref 91), boot_o_7 P, boot_o_8 P, k95 P, boot_o_7 P, ho31 P, k98 P, fnO 11 (Value.str (Str.ofString "cpy313.token") 2239) (Value.ref 98), boot_o_7 P, boot_o_8 P, k102 P, boot_o_7 P, ho34 P, k105 P, fnO 12 (Value.str (Str.ofString "cpy313.token") 2239) (Value.ref 105), boot_o_7 P, boot_o_8 P, k109 P, boot_o_7 P, ho37 P, k112 P, fnO 13 (Value.str (Str.ofString "cpy313.token") 2239) (Value.ref 112), boot_o_7 P, boot_o_8 P, k116 P, boot_o_7 P, ho44 P, k119 P, fnO 18 (Value.str (Str.ofString "cpy313.traceback") 2266) (Value.ref 119)]
theorem tl_p18 (P : Params) : (tr_p18 P).list 121 = hl_p18 P := by kernel_rfl!
noncomputable def tr_p29 (P : Params) : BT := (BT.node (boot_o_0 P) (BT.node (boot_o_1 P) (BT.node (k3 P) (BT.node (boot_o_7 P) (BT.node (boot_o_7 P) (BT.node (ho13 P) (BT.node (sbO 15) (BT.node (fnO 19 (Value.str (Str.ofString "cpy313.traceback") 2266) (Value.ref 126)) BT.nil BT.nil) BT.nil) (BT.node (k95 P) (BT.node (ho66 P) BT.nil BT.nil) BT.nil)) (BT.node (b3O) (BT.node (sbO 31) (BT.node (boot_o_8 P) BT.nil BT.nil) BT.nil) (BT.node (ho37 P) (BT.node (boot_o_8 P) BT.nil BT.nil) BT.nil))) (BT.node (boot_o_8 P) (BT.node (ho18 P) (BT.node (sbO 23) (BT.node (boot_o_7 P) BT.nil BT.nil) BT.nil) (BT.node (boot_o_7 P) (BT.node (k167 P) BT.nil BT.nil) BT.nil)) (BT.node (sbO 7) (BT.node (boot_o_8 P) (BT.node (fnO 24 (Value.str (Str.ofString "law_sh0048_01") 2302) (Value.ref 150)) BT.nil BT.nil) BT.nil) (BT.node (k119 P) BT.nil BT.nil)))) (BT.node (boot_o_7 P) (BT.node (ho5 P) (BT.node (ho16 P) (BT.node (sbO 19) (BT.node (boot_o_7 P) BT.nil BT.nil) BT.nil) (BT.node (fnO 11 (Value.str (Str.ofString "cpy313.token") 2239) (Value.ref 98)) (BT.node (boot_o_8 P) BT.nil BT.nil) BT.nil)) (BT.node (sbO 3) (BT.node (sbO 35) (BT.node (boot_o_7 P) BT.nil BT.nil) BT.nil) (BT.node (boot_o_8 P) BT.nil BT.nil))) (BT.node (k27 P) (BT.node (boot_o_7 P) (BT.node (sbO 27) (BT.node (ho54 P) BT.nil BT.nil) BT.nil) (BT.node (boot_o_7 P) (BT.node (ho72 P) BT.nil BT.nil) BT.nil)) (BT.node (sbO 11) (BT.node (k91 P) (BT.node (k155 P) BT.nil BT.nil) BT.nil) (BT.node (k123 P) BT.nil BT.nil))))) (BT.node (boot_o_5 P) (BT.node (boot_o_9 P) (BT.node (k17 P) (BT.node (boot_o_7 P) (BT.node (sbO 17) (BT.node (boot_o_8 P) BT.nil BT.nil) BT.nil) (BT.node (ho31 P) (BT.node (fnO 26 (Value.str (Str.ofString "law_sh0048_01") 2302) (Value.ref 160)) BT.nil BT.nil) BT.nil)) (BT.node (sbO 1) (BT.node (sbO 33) (BT.node (k145 P) BT.nil BT.nil) BT.nil) (BT.node (fnO 13 (Value.str (Str.ofString "cpy313.token") 2239) (Value.ref 112)) (BT.node (k177 P) BT.nil BT.nil) BT.nil))) (BT.node (boot_o_7 P) (BT.node (boot_o_8 P) (BT.node (sbO 25) (BT.node (k137 P) BT.nil BT.nil) BT.nil) (BT.node (k105 P) (BT.node (boot_o_7 P) BT.nil BT.nil) BT.nil)) (BT.node (sbO 9) (BT.node (boot_o_7 P) (BT.node (boot_o_8 P) BT.nil BT.nil) BT.nil) (BT.node (boot_o_7 P) BT.nil BT.nil)))) (BT.node (ho0 P) (BT.node (fnO 1 (Value.str (Str.ofString "cpy313.email.utils") 187) (Value.ref 20)) (BT.node (ho17 P) (BT.node (sbO 21) (BT.node (k133 P) BT.nil BT.nil) BT.nil) (BT.node (boot_o_8 P) (BT.node (boot_o_7 P) BT.nil BT.nil) BT.nil)) (BT.node (sbO 5) (BT.node (sbE) (BT.node (ho60 P) BT.nil BT.nil) BT.nil) (BT.node (boot_o_7 P) BT.nil BT.nil))) (BT.node (ho11 P) (BT.node (k45 P) (BT.node (sbO 29) (BT.node (fnO 22 (Value.str (Str.ofString "law_sh0048_01") 2302) (Value.ref 140)) BT.nil BT.nil) BT.nil) (BT.node (k109 P) (BT.node (fnO 28 (Value.str (Str.ofString "law_sh0048_01") 2302) (Value.ref 172)) BT.nil BT.nil) BT.nil)) (BT.node (sbO 13) (BT.node (boot_o_7 P) (BT.node (boot_o_7 P) BT.nil BT.nil) BT.nil) (BT.node (ho47 P) BT.nil BT.nil)))))) (BT.node (boot_o_2 P) (BT.node (boot_o_4 P) (BT.node (boot_o_8 P) (BT.node (boot_o_8 P) (BT.node (ho14 P) (BT.node (sbO 16) (BT.node (boot_o_7 P) BT.nil BT.nil) BT.nil) (BT.node (boot_o_7 P) (BT.node (k160 P) BT.nil BT.nil) BT.nil)) (BT.node (sbO 0) (BT.node (sbO 32) (BT.node (ho57 P) BT.nil BT.nil) BT.nil) (BT.node (k112 P) (BT.node (ho74 P) BT.nil BT.nil) BT.nil))) (BT.node (k24 P) (BT.node (boot_o_7 P) (BT.node (sbO 24) (BT.node (boot_o_8 P) BT.nil BT.nil) BT.nil) (BT.node (ho34 P) (BT.node (fnO 27 (Value.str (Str.ofString "law_sh0048_01") 2302) (Value.ref 167)) BT.nil BT.nil) BT.nil)) (BT.node (sbO 8) (BT.node (k88 P) (BT.node (boot_o_7 P) BT.nil BT.nil) BT.nil) (BT.node (fnO 18 (Value.str (Str.ofString "cpy313.traceback") 2266) (Value.ref 119)) BT.nil BT.nil)))) (BT.node (ho73 P) (BT.node (k20 P) (BT.node (b1O (!P.followText "set-order")) (BT.node (sbO 20) (BT.node (ho51 P) BT.nil BT.nil) BT.nil) (BT.node (boot_o_7 P) (BT.node (k164 P) BT.nil BT.nil) BT.nil)) (BT.node (sbO 4) (BT.node (sbO 36) (BT.node (boot_o_8 P) BT.nil BT.nil) BT.nil) (BT.node (k116 P) BT.nil BT.nil))) (BT.node (fnO 2 (Value.str (Str.ofString "cpy313.email.utils") 187) (Value.ref 27)) (BT.node (ho21 P) (BT.node (sbO 28) (BT.node (k140 P) BT.nil BT.nil) BT.nil) (BT.node (boot_o_8 P) (BT.node (k172 P) BT.nil BT.nil) BT.nil)) (BT.node (sbO 12) (BT.node (fnO 7 (Value.str (Str.ofString "cpy313.stringprep") 211) (Value.ref 91)) (BT.node (fnO 25 (Value.str (Str.ofString "law_sh0048_01") 2302) (Value.ref 155)) BT.nil BT.nil) BT.nil) (BT.node (boot_o_7 P) BT.nil BT.nil))))) (BT.node (boot_o_6 P) (BT.node (boot_o_10 P) (BT.node (boot_o_7 P) (BT.node (ho15 P) (BT.node (sbO 18) (BT.node (k130 P) BT.nil BT.nil) BT.nil) (BT.node (k98 P) (BT.node (boot_o_7 P) BT.nil BT.nil) BT.nil)) (BT.node (sbO 2) (BT.node (sbO 34) (BT.node (fnO 23 (Value.str (Str.ofString "law_sh0048_01") 2302) (Value.ref 145)) BT.nil BT.nil) BT.nil) (BT.node (boot_o_7 P) (BT.node (fnO 29 (Value.str (Str.ofString "law_sh0048_01") 2302) (Value.ref 177)) BT.nil BT.nil) BT.nil))) (BT.node (ho8 P) (BT.node (k42 P) (BT.node (sbO 26) (BT.node (boot_o_7 P) BT.nil BT.nil) BT.nil) (BT.node (fnO 12 (Value.str (Str.ofString "cpy313.token") 2239) (Value.ref 105)) (BT.node (boot_o_8 P) BT.nil BT.nil) BT.nil)) (BT.node (sbO 10) (BT.node (ho25 P) (BT.node (ho63 P) BT.nil BT.nil) BT.nil) (BT.node (boot_o_8 P) BT.nil BT.nil)))) (BT.node (ho1 P) (BT.node (boot_o_7 P) (BT.node (boot_o_7 P) (BT.node (sbO 22) (BT.node (fnO 21 (Value.str (Str.ofString "law_sh0048_01") 2302) (Value.ref 133)) BT.nil BT.nil) BT.nil) (BT.node (k102 P) (BT.node (ho69 P) BT.nil BT.nil) BT.nil)) (BT.node (sbO 6) (BT.node (boot_o_7 P) (BT.node (k150 P) BT.nil BT.nil) BT.nil) (BT.node (ho44 P) BT.nil BT.nil))) (BT.node (ho12 P) (BT.node (fnO 5 (Value.str (Str.ofString "cpy313.stringprep") 211) (Value.ref 45)) (BT.node (sbO 30) (BT.node (boot_o_7 P) BT.nil BT.nil) BT.nil) (BT.node (boot_o_7 P) (BT.node (boot_o_7 P) BT.nil BT.nil) BT.nil)) (BT.node (sbO 14) (BT.node (boot_o_8 P) (BT.node (boot_o_8 P) BT.nil BT.nil) BT.nil) (BT.node (k126 P) BT.nil BT.nil)))))))
noncomputable def hl_p29 (P : Params) : List Obj := [boot_o_0 P, boot_o_1 P, boot_o_2 P, k3 P, boot_o_4 P, boot_o_5 P, boot_o_6 P, boot_o_7 P, boot_o_8 P, boot_o_9 P, boot_o_10 P, boot_o_7 P, ho73 P, ho0 P, ho1 P, boot_o_7 P, boot_o_8 P, k17 P, boot_o_7 P, ho5 P, k20 P, fnO 1 (Value.str (Str.ofString "cpy313.email.utils") 187) (Value.ref 20), boot_o_7 P, boot_o_8 P, k24 P, boot_o_7 P, ho8 P, k27 P, fnO 2 (Value.str (Str.ofString "cpy313.email.utils") 187) (Value.ref 27), ho11 P, ho12 P, ho13 P, ho14 P, boot_o_7 P, ho15 P, ho16 P, b1O (!P.followText "set-order"), ho17 P, boot_o_7 P, ho18 P, boot_o_7 P, boot_o_8 P, k42 P, boot_o_7 P, ho21 P, k45 P, fnO 5 (Value.str (Str.ofString "cpy313.stringprep") 211) (Value.ref 45), b3O, sbO 0, sbO 1, sbO 2, sbO 3, sbO 4, sbO 5, sbO 6, sbO 7, sbO 8, sbO 9, sbO 10, sbO 11, sbO 12, sbO 13, sbO 14, sbO 15, sbO 16, sbO 17, sbO 18, sbO 19, sbO 20, sbO 21, sbO 22, sbO 23, sbO 24, sbO 25, sbO 26, sbO 27, sbO 28, sbO 29, sbO 30, sbO 31, sbO 32, sbO 33, sbO 34, sbO 35, sbO 36, sbE, boot_o_7 P, boot_o_8 P, k88 P, boot_o_7 P, ho25 P, k91 P, fnO 7 (Value.str (Str.ofString "cpy313.stringprep") 211) (Value.ref 91), boot_o_7 P, boot_o_8 P, k95 P, boot_o_7 P, ho31 P, k98 P, fnO 11 (Value.str (Str.ofString "cpy313.token") 2239) (Value.ref 98), boot_o_7 P, boot_o_8 P, k102 P, boot_o_7 P, ho34 P, k105 P, fnO 12 (Value.str (Str.ofString "cpy313.token") 2239) (Value.ref 105), boot_o_7 P, boot_o_8 P, k109 P, boot_o_7 P, ho37 P, k112 P, fnO 13 (Value.str (Str.ofString "cpy313.token") 2239) (Value.ref 112), boot_o_7 P, boot_o_8 P, k116 P, boot_o_7 P, ho44 P, k119 P, fnO 18 (Value.str (Str.ofString "cpy313.traceback") 2266) (Value.ref 119), boot_o_7 P, boot_o_8 P, k123 P, boot_o_7 P, ho47 P, k126 P, fnO 19 (Value.str (Str.ofString "cpy313.traceback") 2266) (Value.ref 126), boot_o_7 P, boot_o_8 P, k130 P, boot_o_7 P, ho51 P, k133 P, fnO 21 (Value.str (Str.ofString "law_sh0048_01") 2302) (Value.ref 133), boot_o_7 P, boot_o_8 P, k137 P, boot_o_7 P, ho54 P, k140 P, fnO 22 (Value.str (Str.ofString "law_sh0048_01") 2302) (Value.ref 140), boot_o_7 P, boot_o_8 P, ho57 P, k145 P, fnO 23 (Value.str (Str.ofString "law_sh0048_01") 2302) (Value.ref 145), boot_o_7 P, boot_o_8 P, ho60 P, k150 P, fnO 24 (Value.str (Str.ofString "law_sh0048_01") 2302) (Value.ref 150), boot_o_7 P, boot_o_8 P, ho63 P, k155 P, fnO 25 (Value.str (Str.ofString "law_sh0048_01") 2302) (Value.ref 155), boot_o_7 P, boot_o_8 P, ho66 P, k160 P, fnO 26 (Value.str (Str.ofString "law_sh0048_01") 2302) (Value.ref 160), boot_o_7 P, boot_o_8 P, k164 P, boot_o_7 P, ho69 P, k167 P, fnO 27 (Value.str (Str.ofString "law_sh0048_01") 2302) (Value.ref 167), boot_o_7 P, boot_o_8 P, ho72 P, k172 P, fnO 28 (Value.str (Str.ofString "law_sh0048_01") 2302) (Value.ref 172), boot_o_7 P, boot_o_8 P, ho74 P, k177 P, fnO 29 (Value.str (Str.ofString "law_sh0048_01") 2302) (Value.ref 177)]
theorem tl_p29 (P : Params) : (tr_p29 P).list 179 = hl_p29 P := by kernel_rfl!
noncomputable def sT (tr : Params → BT) (n tk : Nat) (w : World) (os : OsState) : SharedT := ⟨tr w.params, n, lf, Array.mk [], dr0, tk, os⟩
noncomputable abbrev PP0 : Program := Challenge.pw_sh0048_01
noncomputable def ann0 : Option Value := some (.ref 6)
noncomputable def env0 : Env := { scope := PP0.main.scope, locals := mainNs, globals := mainNs, cells := [], code := .ref 13, frame := some 14 }
noncomputable def cE0 : Code := Code.body (behindTheImports PP0) env0
noncomputable def fp0 : Pos := ⟨0, 0, 0, 0⟩
noncomputable def stsO (i n : Nat) : List Stmt := (PP0.main.body.drop i).take n
noncomputable def pos_pre : Pos := PySem.Pos.mk 0 0 0 0
noncomputable def pos_p3 : Pos := PySem.Pos.mk 33 0 33 8
noncomputable def pos_p4 : Pos := PySem.Pos.mk 34 0 34 6
noncomputable def pos_p5 : Pos := PySem.Pos.mk 35 0 36 30
noncomputable def pos_p6 : Pos := PySem.Pos.mk 37 0 37 13
noncomputable def pos_p18 : Pos := PySem.Pos.mk 56 0 61 21
noncomputable def pos_p29 : Pos := PySem.Pos.mk 133 0 166 15
end Mine
end

section
open PySem PySem.W PyProof.Rows
set_option Elab.async false
set_option maxRecDepth 100000
set_option maxHeartbeats 0
namespace Mine
theorem pcA_tw (w : World) : (fun os => PySem.W.Fast.tw10110043849684766642 PySem.W.Fast.tw14364793385576792824 Challenge.pw_sh0048_01 w 11 ann0 1 85 ⟨tr_pre w.params, 15, lf, Array.mk [], dr0, 187, os⟩ (⟨Sem.wrap doneF deadEnd id id (PySem.W.Fast.tw12563942051412417395 (stsO 0 4) env0), cE0, pos_pre, [topFrame fp0]⟩)) = fun os => some (Flow.next, ⟨tr_p3 w.params, 29, lf, Array.mk [], dr0, 213, os⟩, cE0, pos_p3) := by kernel_rfl
theorem pcC_tw (w : World) : (fun os => PySem.W.Fast.tw10110043849684766642 PySem.W.Fast.tw14364793385576792824 Challenge.pw_sh0048_01 w 11 ann0 1 30 ⟨tr_p4 w.params, 40, lf, Array.mk [], dr0, 273, os⟩ (⟨Sem.wrap doneF deadEnd id id (PySem.W.Fast.tw12563942051412417395 (stsO 5 1) env0), cE0, pos_p4, [topFrame fp0]⟩)) = fun os => some (Flow.next, ⟨tr_p5 w.params, 47, lf, Array.mk [], dr0, 280, os⟩, cE0, pos_p5) := by kernel_rfl
theorem pcE_tw (w : World) : (fun os => PySem.W.Fast.tw10110043849684766642 PySem.W.Fast.tw14364793385576792824 Challenge.pw_sh0048_01 w 11 ann0 1 211 ⟨tr_p6 w.params, 86, lf, Array.mk [], dr0, 2231, os⟩ (⟨Sem.wrap doneF deadEnd id id (PySem.W.Fast.tw12563942051412417395 (stsO 7 12) env0), cE0, pos_p6, [topFrame fp0]⟩)) = fun os => some (Flow.next, ⟨tr_p18 w.params, 121, lf, Array.mk [], dr0, 2282, os⟩, cE0, pos_p18) := by kernel_rfl
theorem pcF_tw (w : World) : (fun os => PySem.W.Fast.tw10110043849684766642 PySem.W.Fast.tw14364793385576792824 Challenge.pw_sh0048_01 w 11 ann0 1 301 ⟨tr_p18 w.params, 121, lf, Array.mk [], dr0, 2282, os⟩ (⟨Sem.wrap doneF deadEnd id id (PySem.W.Fast.tw12563942051412417395 (stsO 19 11) env0), cE0, pos_p18, [topFrame fp0]⟩)) = fun os => some (Flow.next, ⟨tr_p29 w.params, 179, lf, Array.mk [], dr0, 2367, os⟩, cE0, pos_p29) := by kernel_rfl
theorem pcA (w : World) : (fun os => segRunT treeTable Challenge.pw_sh0048_01 w 11 ann0 1 85 ⟨tr_pre w.params, 15, lf, Array.mk [], dr0, 187, os⟩ (⟨Sem.wrap doneF deadEnd id id (execs (stsO 0 4) env0), cE0, pos_pre, [topFrame fp0]⟩)) = fun os => some (Flow.next, ⟨tr_p3 w.params, 29, lf, Array.mk [], dr0, 213, os⟩, cE0, pos_p3) := by
  rw [PySem.W.Fast.te10110043849684766642, PySem.W.Fast.te14364793385576792824, PySem.W.Fast.te12563942051412417395]
  exact pcA_tw w
theorem pcC (w : World) : (fun os => segRunT treeTable Challenge.pw_sh0048_01 w 11 ann0 1 30 ⟨tr_p4 w.params, 40, lf, Array.mk [], dr0, 273, os⟩ (⟨Sem.wrap doneF deadEnd id id (execs (stsO 5 1) env0), cE0, pos_p4, [topFrame fp0]⟩)) = fun os => some (Flow.next, ⟨tr_p5 w.params, 47, lf, Array.mk [], dr0, 280, os⟩, cE0, pos_p5) := by
  rw [PySem.W.Fast.te10110043849684766642, PySem.W.Fast.te14364793385576792824, PySem.W.Fast.te12563942051412417395]
  exact pcC_tw w
theorem pcE (w : World) : (fun os => segRunT treeTable Challenge.pw_sh0048_01 w 11 ann0 1 211 ⟨tr_p6 w.params, 86, lf, Array.mk [], dr0, 2231, os⟩ (⟨Sem.wrap doneF deadEnd id id (execs (stsO 7 12) env0), cE0, pos_p6, [topFrame fp0]⟩)) = fun os => some (Flow.next, ⟨tr_p18 w.params, 121, lf, Array.mk [], dr0, 2282, os⟩, cE0, pos_p18) := by
  rw [PySem.W.Fast.te10110043849684766642, PySem.W.Fast.te14364793385576792824, PySem.W.Fast.te12563942051412417395]
  exact pcE_tw w
theorem pcF (w : World) : (fun os => segRunT treeTable Challenge.pw_sh0048_01 w 11 ann0 1 301 ⟨tr_p18 w.params, 121, lf, Array.mk [], dr0, 2282, os⟩ (⟨Sem.wrap doneF deadEnd id id (execs (stsO 19 11) env0), cE0, pos_p18, [topFrame fp0]⟩)) = fun os => some (Flow.next, ⟨tr_p29 w.params, 179, lf, Array.mk [], dr0, 2367, os⟩, cE0, pos_p29) := by
  rw [PySem.W.Fast.te10110043849684766642, PySem.W.Fast.te14364793385576792824, PySem.W.Fast.te12563942051412417395]
  exact pcF_tw w
end Mine
end

section
open PySem PySem.W PyProof.Rows
set_option Elab.async false
set_option maxRecDepth 100000
set_option maxHeartbeats 0
namespace Mine
theorem pcB_tw0 (w : World) : (fun os => PySem.W.Fast.tw10110043849684766642 PySem.W.Fast.tw14364793385576792824 Challenge.pw_sh0048_01 (World.withFollow (World.withFollow w "special-get-raises" false) "set-order" false) 11 ann0 1 999 ⟨tr_p3 ((World.withFollow (World.withFollow w "special-get-raises" false) "set-order" false)).params, 29, lf, Array.mk [], dr0, 213, os⟩ (⟨Sem.wrap doneF deadEnd id id (PySem.W.Fast.tw12563942051412417395 (stsO 4 1) env0), cE0, pos_p3, [topFrame fp0]⟩)) = fun os => some (Flow.next, ⟨tr_p4 ((World.withFollow (World.withFollow w "special-get-raises" false) "set-order" false)).params, 40, lf, Array.mk [], dr0, 273, os⟩, cE0, pos_p4) := by kernel_rfl
theorem pcB_tw1 (w : World) : (fun os => PySem.W.Fast.tw10110043849684766642 PySem.W.Fast.tw14364793385576792824 Challenge.pw_sh0048_01 (World.withFollow (World.withFollow w "special-get-raises" true) "set-order" false) 11 ann0 1 999 ⟨tr_p3 ((World.withFollow (World.withFollow w "special-get-raises" true) "set-order" false)).params, 29, lf, Array.mk [], dr0, 213, os⟩ (⟨Sem.wrap doneF deadEnd id id (PySem.W.Fast.tw12563942051412417395 (stsO 4 1) env0), cE0, pos_p3, [topFrame fp0]⟩)) = fun os => some (Flow.next, ⟨tr_p4 ((World.withFollow (World.withFollow w "special-get-raises" true) "set-order" false)).params, 40, lf, Array.mk [], dr0, 273, os⟩, cE0, pos_p4) := by kernel_rfl
theorem pcB_tw2 (w : World) : (fun os => PySem.W.Fast.tw10110043849684766642 PySem.W.Fast.tw14364793385576792824 Challenge.pw_sh0048_01 (World.withFollow (World.withFollow w "special-get-raises" false) "set-order" true) 11 ann0 1 999 ⟨tr_p3 ((World.withFollow (World.withFollow w "special-get-raises" false) "set-order" true)).params, 29, lf, Array.mk [], dr0, 213, os⟩ (⟨Sem.wrap doneF deadEnd id id (PySem.W.Fast.tw12563942051412417395 (stsO 4 1) env0), cE0, pos_p3, [topFrame fp0]⟩)) = fun os => some (Flow.next, ⟨tr_p4 ((World.withFollow (World.withFollow w "special-get-raises" false) "set-order" true)).params, 40, lf, Array.mk [], dr0, 273, os⟩, cE0, pos_p4) := by kernel_rfl
theorem pcB_tw3 (w : World) : (fun os => PySem.W.Fast.tw10110043849684766642 PySem.W.Fast.tw14364793385576792824 Challenge.pw_sh0048_01 (World.withFollow (World.withFollow w "special-get-raises" true) "set-order" true) 11 ann0 1 999 ⟨tr_p3 ((World.withFollow (World.withFollow w "special-get-raises" true) "set-order" true)).params, 29, lf, Array.mk [], dr0, 213, os⟩ (⟨Sem.wrap doneF deadEnd id id (PySem.W.Fast.tw12563942051412417395 (stsO 4 1) env0), cE0, pos_p3, [topFrame fp0]⟩)) = fun os => some (Flow.next, ⟨tr_p4 ((World.withFollow (World.withFollow w "special-get-raises" true) "set-order" true)).params, 40, lf, Array.mk [], dr0, 273, os⟩, cE0, pos_p4) := by kernel_rfl
theorem pcB_tw : ∀ w : World, (fun os => PySem.W.Fast.tw10110043849684766642 PySem.W.Fast.tw14364793385576792824 Challenge.pw_sh0048_01 w 11 ann0 1 999 ⟨tr_p3 (w).params, 29, lf, Array.mk [], dr0, 213, os⟩ (⟨Sem.wrap doneF deadEnd id id (PySem.W.Fast.tw12563942051412417395 (stsO 4 1) env0), cE0, pos_p3, [topFrame fp0]⟩)) = fun os => some (Flow.next, ⟨tr_p4 (w).params, 40, lf, Array.mk [], dr0, 273, os⟩, cE0, pos_p4) :=
  byRow2 "set-order" (P := fun w => (fun os => PySem.W.Fast.tw10110043849684766642 PySem.W.Fast.tw14364793385576792824 Challenge.pw_sh0048_01 w 11 ann0 1 999 ⟨tr_p3 (w).params, 29, lf, Array.mk [], dr0, 213, os⟩ (⟨Sem.wrap doneF deadEnd id id (PySem.W.Fast.tw12563942051412417395 (stsO 4 1) env0), cE0, pos_p3, [topFrame fp0]⟩)) = fun os => some (Flow.next, ⟨tr_p4 (w).params, 40, lf, Array.mk [], dr0, 273, os⟩, cE0, pos_p4))
    (byRow2 "special-get-raises" (P := fun w => (fun os => PySem.W.Fast.tw10110043849684766642 PySem.W.Fast.tw14364793385576792824 Challenge.pw_sh0048_01 (World.withFollow w "set-order" false) 11 ann0 1 999 ⟨tr_p3 ((World.withFollow w "set-order" false)).params, 29, lf, Array.mk [], dr0, 213, os⟩ (⟨Sem.wrap doneF deadEnd id id (PySem.W.Fast.tw12563942051412417395 (stsO 4 1) env0), cE0, pos_p3, [topFrame fp0]⟩)) = fun os => some (Flow.next, ⟨tr_p4 ((World.withFollow w "set-order" false)).params, 40, lf, Array.mk [], dr0, 273, os⟩, cE0, pos_p4)) (fun w => pcB_tw0 w) (fun w => pcB_tw1 w))
    (byRow2 "special-get-raises" (P := fun w => (fun os => PySem.W.Fast.tw10110043849684766642 PySem.W.Fast.tw14364793385576792824 Challenge.pw_sh0048_01 (World.withFollow w "set-order" true) 11 ann0 1 999 ⟨tr_p3 ((World.withFollow w "set-order" true)).params, 29, lf, Array.mk [], dr0, 213, os⟩ (⟨Sem.wrap doneF deadEnd id id (PySem.W.Fast.tw12563942051412417395 (stsO 4 1) env0), cE0, pos_p3, [topFrame fp0]⟩)) = fun os => some (Flow.next, ⟨tr_p4 ((World.withFollow w "set-order" true)).params, 40, lf, Array.mk [], dr0, 273, os⟩, cE0, pos_p4)) (fun w => pcB_tw2 w) (fun w => pcB_tw3 w))
theorem pcB (w : World) : (fun os => segRunT treeTable Challenge.pw_sh0048_01 w 11 ann0 1 999 ⟨tr_p3 w.params, 29, lf, Array.mk [], dr0, 213, os⟩ (⟨Sem.wrap doneF deadEnd id id (execs (stsO 4 1) env0), cE0, pos_p3, [topFrame fp0]⟩)) = fun os => some (Flow.next, ⟨tr_p4 w.params, 40, lf, Array.mk [], dr0, 273, os⟩, cE0, pos_p4) := by
  rw [PySem.W.Fast.te10110043849684766642, PySem.W.Fast.te14364793385576792824, PySem.W.Fast.te12563942051412417395]
  exact pcB_tw w
end Mine
end

section
open PySem PySem.W PyProof.Rows
set_option Elab.async false
set_option maxRecDepth 100000
set_option maxHeartbeats 0
namespace Mine
/-- just ahead of the table's name being bound -/
noncomputable def hl_mid (P : Params) : List Obj := [boot_o_0 P, boot_o_1 P, boot_o_2 P, ho19 P, boot_o_4 P, boot_o_5 P, boot_o_6 P, boot_o_7 P, boot_o_8 P, boot_o_9 P, boot_o_10 P, boot_o_7 P, ho20 P, ho0 P, ho1 P, boot_o_7 P, boot_o_8 P, k17 P, boot_o_7 P, ho5 P, k20 P, fnO 1 (Value.str (Str.ofString "cpy313.email.utils") 187) (Value.ref 20), boot_o_7 P, boot_o_8 P, k24 P, boot_o_7 P, ho8 P, k27 P, fnO 2 (Value.str (Str.ofString "cpy313.email.utils") 187) (Value.ref 27), ho11 P, ho12 P, ho13 P, ho14 P, boot_o_7 P, ho15 P, ho16 P, b1O (!P.followText "set-order"), ho17 P, boot_o_7 P, ho18 P, boot_o_7 P, boot_o_8 P, k42 P, boot_o_7 P, ho21 P, k45 P, fnO 5 (Value.str (Str.ofString "cpy313.stringprep") 211) (Value.ref 45), b3O, sbO 0, sbO 1, sbO 2, sbO 3, sbO 4, sbO 5, sbO 6, sbO 7, sbO 8, sbO 9, sbO 10, sbO 11, sbO 12, sbO 13, sbO 14, sbO 15, sbO 16, sbO 17, sbO 18, sbO 19, sbO 20, sbO 21, sbO 22, sbO 23, sbO 24, sbO 25, sbO 26, sbO 27, sbO 28, sbO 29, sbO 30, sbO 31, sbO 32, sbO 33, sbO 34, sbO 35, sbO 36, sbE]
theorem kv_len : KV.length = 650 := by kernel_rfl
noncomputable def ck (j : Nat) : List (Int × Str) := (KV.drop (17 * (j + 1))).take 17
noncomputable def cks (j n : Nat) : List (List (Int × Str)) := (List.range' j n).map ck
theorem ck_len {j : Nat} (h : j < 37) : (ck j).length = 17 := by
  unfold ck
  rw [List.length_take, List.length_drop, kv_len]; omega
theorem cks_flat : ∀ (n j : Nat), (cks j n).flatten ++ KV.drop (17 * (j + n + 1)) = KV.drop (17 * (j + 1))
  | 0, j => rfl
  | n + 1, j => by
    have ih := cks_flat n (j + 1)
    have e : cks j (n + 1) = ck j :: cks (j + 1) n := rfl
    rw [e, List.flatten_cons, List.append_assoc, show j + (n + 1) + 1 = j + 1 + n + 1 by omega, ih]
    unfold ck
    rw [show 17 * (j + 1 + 1) = 17 * (j + 1) + 17 by omega, ← List.drop_drop, List.take_append_drop]
theorem cks_objs : ∀ (n j : Nat), j + n ≤ 37 → subsO (331 + 51 * j) (cks j n) = (List.range' j n).map sbO
  | 0, j, _ => rfl
  | n + 1, j, h => by
    have ih := cks_objs n (j + 1) (by omega)
    have e : cks j (n + 1) = ck j :: cks (j + 1) n := rfl
    have l := ck_len (j := j) (by omega)
    rw [e, subsO, l, show 331 + 51 * j + 3 * 17 = 331 + 51 * (j + 1) by omega, ih]
    rfl
theorem cks_17 : ∀ c ∈ cks 0 37, c.length = 17 := fun c hc => by
  obtain ⟨j, hj, rfl⟩ := List.mem_map.mp hc
  exact ck_len (by have := List.mem_range'_1.mp hj; omega)
theorem kv_parts : KV.take 17 ++ ((cks 0 37).flatten ++ KV.drop 646) = KV := by
  have := cks_flat 37 0
  rw [show 17 * (0 + 37 + 1) = 646 by rfl, show 17 * (0 + 1) = 17 by rfl] at this
  rw [this, List.take_append_drop]
theorem kv_head : KV.take 17 ++ (cks 0 37).flatten = KV.take 646 := by
  have h := kv_parts
  rw [← List.append_assoc] at h
  exact List.append_cancel_right (bs := KV.drop 646) (h.trans (List.take_append_drop 646 KV).symm)
noncomputable def asc : Int → List Int → Bool
  | _, [] => true
  | a, b :: r => match decide (a < b) with | true => asc b r | false => false
theorem asc_lt : ∀ (a : Int) (l : List Int), asc a l = true → ∀ b ∈ l, a < b
  | a, [], _, b, hb => nomatch hb
  | a, c :: r, h, b, hb => by
    unfold asc at h
    cases e : decide (a < c) with
    | false => rw [e] at h; cases h
    | true =>
      rw [e] at h
      have e := of_decide_eq_true e
      rcases List.mem_cons.mp hb with rfl | hb
      · exact e
      · exact Int.lt_trans e (asc_lt c r h b hb)
theorem asc_nodup : ∀ (a : Int) (l : List Int), asc a l = true → l.Nodup
  | a, [], _ => List.nodup_nil
  | a, c :: r, h => by
    unfold asc at h
    cases e : decide (a < c) with
    | false => rw [e] at h; cases h
    | true =>
      rw [e] at h
      exact List.nodup_cons.mpr ⟨fun m => absurd (asc_lt c r h c m) (Int.lt_irrefl _), asc_nodup c r h⟩
theorem kv_nodup : (hkeys KV).Nodup := asc_nodup 0 _ (by kernel_rfl)
theorem b3_is : dob (subE 280 (KV.take 646) ++ endE 2218 (KV.drop 646)) 650 = b3O := by kernel_rfl
noncomputable def okK : Option PySem.Expr → Bool
  | some (.Constant (.int _) _ _) => true
  | _ => false
noncomputable def okV : PySem.Expr → Bool
  | .Constant (.str _) _ _ => true
  | _ => false
noncomputable def okKV : List (Option PySem.Expr) → List PySem.Expr → Bool
  | [], [] => true
  | k :: ks, v :: vs => okK k && (okV v && okKV ks vs)
  | _, _ => false
theorem okK_is {k : Option PySem.Expr} (h : okK k = true) : ∃ i a b, k = some (.Constant (.int i) a b) := by
  cases k with
  | none => cases h
  | some e =>
    cases e
    case Constant c a b =>
      cases c
      case int i => exact ⟨i, a, b, rfl⟩
      all_goals cases h
    all_goals cases h
theorem okV_is {v : PySem.Expr} (h : okV v = true) : ∃ x a b, v = .Constant (.str x) a b := by
  cases v
  case Constant c a b =>
    cases c
    case str i => exact ⟨i, a, b, rfl⟩
    all_goals cases h
  all_goals cases h
theorem items_is (env : Env) (pos : Pos) : ∀ ks vs, okKV ks vs = true → (evalEachOpt ks env).zip ((evalEach vs env).map fun v => do let x ← v; standAt pos; pure x) = (kvGo ks vs).map (itT pos) := by
  intro ks
  induction ks with
  | nil => intro vs h; cases vs with
    | nil => rfl
    | cons v vs => cases h
  | cons k ks ih => intro vs h; cases vs with
    | nil => cases h
    | cons v vs =>
      have h1 := Bool.and_eq_true_iff.mp h
      have h2 := Bool.and_eq_true_iff.mp h1.2
      obtain ⟨i, a, b, rfl⟩ := okK_is h1.1
      obtain ⟨x, c, d, rfl⟩ := okV_is h2.1
      exact congrArg (List.cons _) (ih vs h2.2)
noncomputable def a6 : PySem.Stmt := nthS PP0.main.body 6
noncomputable def a6x : Str := match a6 with | .Assign [.Name x _] _ _ => x | _ => default
noncomputable def a6q : Pos := match a6 with | .Assign [.Name _ q] _ _ => q | _ => ⟨0, 0, 0, 0⟩
noncomputable def a6p : Pos := match a6 with | .Assign _ _ p => p | _ => ⟨0, 0, 0, 0⟩
noncomputable def a6d : Pos := match a6 with | .Assign _ (.Dict _ _ d) _ => d | _ => ⟨0, 0, 0, 0⟩
noncomputable def a6k : List (Option PySem.Expr) := match a6 with | .Assign _ (.Dict ks _ _) _ => ks | _ => []
noncomputable def a6v : List PySem.Expr := match a6 with | .Assign _ (.Dict _ vs _) _ => vs | _ => []
theorem a6_ok : okKV a6k a6v = true := by kernel_rfl
theorem a6_kv : kvGo a6k a6v = KV := by kernel_rfl
theorem a6_is : stsO 6 1 = [.Assign [.Name a6x a6q] (.Dict a6k a6v a6d) a6p] := by kernel_rfl
noncomputable abbrev aft (v : Value) : Sem Flow := do
    standAt a6q
    bindName env0 a6x v
    pure .next
noncomputable abbrev aft2 : Flow → Sem Flow := fun f => match f with | .next => execs [] env0 | f => pure f
/-- the place of the display in the statement -/
noncomputable abbrev cx (m : Sem Value) : Sem PySem.Fin := Sem.wrap doneF deadEnd id id ((m.bind aft).bind aft2)
theorem a6_exec : Sem.wrap doneF deadEnd id id (execs (stsO 6 1) env0) = cx ((standAt a6p).bind fun _ => (standAt a6d).bind fun _ => dictDisplay (KV.map (itT a6d))) := by
  rw [a6_is]
  show Sem.wrap doneF deadEnd id id (Sem.bind (exec (.Assign [.Name a6x a6q] (.Dict a6k a6v a6d) a6p) env0) aft2) = _
  rw [exec_Assign_Name _ _ _ _ _ (by rfl)]
  have e : eval (.Dict a6k a6v a6d) env0 = (standAt a6d).bind fun _ => dictDisplay (KV.map (itT a6d)) := by
    rw [← a6_kv, ← items_is env0 a6d _ _ a6_ok]; rfl
  rw [e]; rfl
theorem cx_ctx : Ctx cx := ((Ctx.wrap doneF deadEnd id id).bind aft2).bind aft
theorem mid_is (P : Params) : hl_p5 P ++ b3O :: ((List.range' 0 37).map sbO ++ [sbE]) = hl_mid P := by kernel_rfl
theorem pcD1 (w : World) (os : OsState) : segGo treeTable PP0 w 11 ann0 1 (1 + (1 + (2 + 13 * 17 + (330 * 37 + (1 + 13 * 4 + (5 + 6 * 4)))))) (ST lf (Array.mk []) dr0 os (hl_p5 w.params) 280) ⟨Sem.wrap doneF deadEnd id id (execs (stsO 6 1) env0), cE0, pos_p5, [topFrame fp0]⟩
    = some (ST lf (Array.mk []) dr0 os (hl_mid w.params) 2230, ⟨cx (.pure (.ref 47)), cE0, a6d, [topFrame fp0]⟩) := by
  rw [a6_exec]
  have l5 : (hl_p5 w.params).length = 47 := by kernel_rfl
  have ld : (KV.drop 646).length = 4 := by rw [List.length_drop, kv_len]
  have l17 : (KV.take 17).length = 17 := by rw [List.length_take, kv_len]; rfl
  have lc : (cks 0 37).length = 37 := by unfold cks; rw [List.length_map, List.length_range']
  have l646 : (KV.take 646).length = 646 := by rw [List.length_take, kv_len]; rfl
  have h := rx_display (p := PP0) (w := w) (n₀ := 11) (ann := ann0) (cb := behindTheImports PP0) (ce := env0) (f0 := topFrame fp0) (life := lf) (gs := Array.mk []) (dr := dr0) (os := os) (L := hl_p5 w.params) (tk := 280) (pos := a6d)
    (c0 := KV.take 17) (cs := cks 0 37) (last := KV.drop 646) l17 cks_17 (by rw [ld]; decide) (by rw [ld]; decide) (by rw [l5]; rfl) (by rw [l5]; decide) (by rw [kv_parts]; exact kv_nodup) (by rw [kv_parts, kv_len]; decide)
  rw [kv_parts, kv_head, kv_len, l17, ld, lc, l646, l5, show 280 + 3 * 646 = 2218 by rfl, show 280 + 3 * 650 = 2230 by rfl, show 280 + 3 * 17 = 331 + 51 * 0 by rfl, cks_objs 37 0 (by decide), b3_is] at h
  rw [show dob (endE 2218 (KV.drop 646)) 4 = sbE from rfl, mid_is] at h
  exact (R.bind (R.standAt a6p) (R.bind (R.standAt a6d) h)) cx cx_ctx
end Mine
end

section
open PySem PySem.W PyProof.Rows
set_option Elab.async false
set_option maxRecDepth 100000
set_option maxHeartbeats 0
namespace Mine
theorem pcD2 (w : World) : (fun os => segRun treeTable PP0 w 11 ann0 1 8 (ST lf (Array.mk []) dr0 os (hl_mid w.params) 2230) ⟨cx (.pure (.ref 47)), cE0, a6d, [topFrame fp0]⟩)
    = fun os => some (Flow.next, ST lf (Array.mk []) dr0 os (hl_p6 w.params) 2231, cE0, pos_p6) := by kernel_rfl
end Mine
end

section
open PySem PySem.W PyProof.Rows
set_option Elab.async false
set_option maxRecDepth 100000
set_option maxHeartbeats 0
namespace Mine
noncomputable abbrev aH (tr : Params → BT) (n : Nat) : Params → Heap := fun P => absHeap (tr P) n lf
theorem h_open : ∀ w : World, (fencedOpening treeTable PP0 w 30000).map (fun s => (s.heap, s.gens, s.drawn, s.toks)) = some (boot_heap w.params, Array.mk [], boot_drawn, boot_toks) :=
  boot_open (by rfl) (by rfl) (fun _ => by rfl)
theorem h_size : ∀ w : World, ((boot_heap w.params).isNs mainGlobals && (Array.mk [] : Array GenState).size == 0, (boot_heap w.params).objs.size, (boot_heap w.params).nsMap mainGlobals "__annotations__") = (true, 11, ann0) := fun w => by kernel_rfl
theorem h_block (w : World) : (fun os => segRun treeTable PP0 w 11 ann0 1 1 (SharedT.abs ⟨tr_pre w.params, 15, lf, Array.mk [], dr0, 187, os⟩) (blockOf (behindTheImports PP0) env0 cE0 pos_pre [topFrame fp0])) = fun os => some (Flow.next, SharedT.abs ⟨tr_pre w.params, 15, lf, Array.mk [], dr0, 187, os⟩, cE0, pos_pre) := by kernel_rfl
theorem h_fin (w : World) : (fun os => topRun treeTable PP0 w 11 ann0 2 (SharedT.abs ⟨tr_p29 w.params, 179, lf, Array.mk [], dr0, 2367, os⟩) ⟨doneF .next, cE0, pos_p29, [topFrame fp0]⟩) = fun os => some (SharedT.abs ⟨tr_p29 w.params, 179, lf, Array.mk [], dr0, 2367, os⟩) := by kernel_rfl
theorem h_pre (w : World) : (fun os => topGo treeTable PP0 w 11 ann0 12 ⟨boot_heap w.params, Array.mk [], boot_drawn, boot_toks, os⟩ (topStub PP0)) = fun os => some (⟨⟨(hl_pre w.params).toArray, lf⟩, Array.mk [], dr0, 187, os⟩, ⟨denote treeTable cE0, cE0, pos_pre, [topFrame fp0]⟩) := by kernel_rfl
end Mine
end

section
open PySem PySem.W PyProof.Rows
set_option Elab.async false
set_option maxRecDepth 100000
set_option maxHeartbeats 0
namespace Mine
noncomputable abbrev KAs : List Nat := [2, 3, 6, 15, 17, 18, 20, 21, 22, 24, 25, 27, 28, 36, 40, 42, 43, 45, 46, 47, 86, 88, 89, 91, 92, 93, 95, 96, 98, 99, 100, 102, 103, 105, 106, 107, 109, 110, 112, 113, 114, 116, 117, 119, 120, 121, 123, 124, 126, 127, 128, 130, 131, 133, 134, 135, 137, 138, 140, 141, 142, 145, 146, 147, 150, 151, 152, 155, 156, 157, 160, 161, 162, 164, 165, 167, 168, 169, 172, 173, 174, 177, 178]
theorem KAs_eq : ∀ P, KAs = (KF P).map (·.1) := fun _ => rfl
noncomputable abbrev HK : Hook := kHook KF KAs KAs_eq
noncomputable abbrev XT : Shared → Bool := fun s => xlAt VW [] s && recOk (RowW.records (OpenRow.toRowW PySem.Challenge.rw_sh0048_01.row)) s
noncomputable abbrev lH : Params → Heap := fun P => ⟨Array.mk (hl_p29 P), lf⟩
noncomputable abbrev lS (w : World) (os : OsState) : Shared := ⟨lH w.params, Array.mk [], dr0, 2367, os⟩
theorem lk1 (w : World) : (fun (os : OsState) => (staticsOk (importedModules PP0.main.body) (boot_heap w.params) (lH w.params) && namesBound PP0 (lH w.params) && gensDone (lS w os) && laidKept (boot_heap w.params) (lH w.params))) = fun (_ : OsState) => true := by kernel_rfl
theorem lk2 (w : World) : (fun (os : OsState) => seen ((recsOf VW).map (·.name)) (ownsOf VW) [] { (lS w os) with gens := #[] }) = fun (_ : OsState) => expectedOf VW := by kernel_rfl
theorem lk3 (w : World) : (fun (os : OsState) => (lS w os).heap.bltView) = fun (_ : OsState) => bltViewBooted := by kernel_rfl
theorem lk4a (w : World) : (fun (os : OsState) => (lS w os).heap.keysOk (looseW VW lo) ((recsOf VW).map (·.name)) ((litsOf VW).map (·.1)) ((clssOf VW (looseW VW lo)).map (·.name))) = fun (_ : OsState) => true := by kernel_rfl
theorem lk4b (w : World) : (fun (os : OsState) => (lS w os).heap.accountedOkI (importedModules PP0.main.body)) = fun (_ : OsState) => true := by kernel_rfl
theorem lk4c1 (w : World) : (fun (os : OsState) => (lS w os).heap.isNs mainGlobals) = fun (_ : OsState) => true := by kernel_rfl
theorem lk4c2 (w : World) : (fun (os : OsState) => (lS w os).heap.isNs builtinsNs) = fun (_ : OsState) => true := by kernel_rfl
theorem lk4c3 (w : World) : (fun (os : OsState) => tablesOk VW (lS w os).heap) = fun (_ : OsState) => true := by kernel_rfl
theorem lk4d (w : World) : (fun (os : OsState) => XT (lS w os)) = fun (_ : OsState) => true := by kernel_rfl
theorem lk4e (w : World) : (fun (os : OsState) => ((lS w os).gens.size == 0)) = fun (_ : OsState) => true := by kernel_rfl
theorem lk5 (w : World) : (fun (os : OsState) => tabsOk VW (lS w os)) = fun (_ : OsState) => true := by kernel_rfl
theorem lk6 (w : World) : (fun (os : OsState) => pinSeenD VW (drecsOf VW) (lS w os)) = fun (_ : OsState) => pinGoodD (drecsOf VW) := by kernel_rfl
theorem lk7 (w : World) : (fun (os : OsState) => plainSeenE VW (looseW VW lo) (lS w os)) = fun (_ : OsState) => plainGoodE VW (looseW VW lo) := by kernel_rfl
theorem lk8 (w : World) : (fun (os : OsState) => plainSeenD VW lo (lS w os)) = fun (_ : OsState) => plainGoodD VW lo := by kernel_rfl
theorem lk9 (w : World) : (fun (os : OsState) => wideSeen VW (lS w os)) = fun (_ : OsState) => wideGood VW := by kernel_rfl
theorem lk10 (w : World) : (fun (os : OsState) => clsSeenW VW lo (lS w os)) = fun (_ : OsState) => clsGoodW VW lo := by kernel_rfl
theorem lk11 (w : World) : (fun (os : OsState) => Hook.obs HK (lS w os)) = fun (_ : OsState) => Hook.val HK w := by kernel_rfl
end Mine
end

section
open PySem PySem.W PyProof.Rows
set_option Elab.async false
set_option maxRecDepth 100000
set_option maxHeartbeats 0
namespace Mine
theorem ab_pre (w : World) (os : OsState) : SharedT.abs ⟨tr_pre w.params, 15, lf, Array.mk [], dr0, 187, os⟩ = ST lf (Array.mk []) dr0 os (hl_pre w.params) 187 := by
  unfold SharedT.abs absHeap
  dsimp only
  rw [tl_pre]
theorem ab_p3 (w : World) (os : OsState) : SharedT.abs ⟨tr_p3 w.params, 29, lf, Array.mk [], dr0, 213, os⟩ = ST lf (Array.mk []) dr0 os (hl_p3 w.params) 213 := by
  unfold SharedT.abs absHeap
  dsimp only
  rw [tl_p3]
theorem ab_p4 (w : World) (os : OsState) : SharedT.abs ⟨tr_p4 w.params, 40, lf, Array.mk [], dr0, 273, os⟩ = ST lf (Array.mk []) dr0 os (hl_p4 w.params) 273 := by
  unfold SharedT.abs absHeap
  dsimp only
  rw [tl_p4]
theorem ab_p5 (w : World) (os : OsState) : SharedT.abs ⟨tr_p5 w.params, 47, lf, Array.mk [], dr0, 280, os⟩ = ST lf (Array.mk []) dr0 os (hl_p5 w.params) 280 := by
  unfold SharedT.abs absHeap
  dsimp only
  rw [tl_p5]
theorem ab_p6 (w : World) (os : OsState) : SharedT.abs ⟨tr_p6 w.params, 86, lf, Array.mk [], dr0, 2231, os⟩ = ST lf (Array.mk []) dr0 os (hl_p6 w.params) 2231 := by
  unfold SharedT.abs absHeap
  dsimp only
  rw [tl_p6]
theorem ab_p18 (w : World) (os : OsState) : SharedT.abs ⟨tr_p18 w.params, 121, lf, Array.mk [], dr0, 2282, os⟩ = ST lf (Array.mk []) dr0 os (hl_p18 w.params) 2282 := by
  unfold SharedT.abs absHeap
  dsimp only
  rw [tl_p18]
theorem ab_p29 (w : World) (os : OsState) : SharedT.abs ⟨tr_p29 w.params, 179, lf, Array.mk [], dr0, 2367, os⟩ = ST lf (Array.mk []) dr0 os (hl_p29 w.params) 2367 := by
  unfold SharedT.abs absHeap
  dsimp only
  rw [tl_p29]
theorem looks (w : World) : (fun os => ((staticsOk (importedModules PP0.main.body) (boot_heap w.params) (lH w.params) && namesBound PP0 (lH w.params) && gensDone ⟨lH w.params, Array.mk [], dr0, 2367, os⟩ && laidKept (boot_heap w.params) (lH w.params)),
        openSeen VW lo (importedModules PP0.main.body) XT true ⟨lH w.params, Array.mk [], dr0, 2367, os⟩, Hook.obs HK ⟨lH w.params, Array.mk [], dr0, 2367, os⟩)) = fun _ => (true, openGood VW lo, Hook.val HK w) := by
  funext os
  refine looks_pair (congrFun (lk1 w) os) (looks_pair ?_ (congrFun (lk11 w) os))
  unfold openSeen openGood
  refine looks_pair (congrFun (lk2 w) os) (looks_pair (congrFun (lk3 w) os) (looks_pair ?_ (looks_pair (congrFun (lk5 w) os) (looks_pair (congrFun (lk6 w) os) (looks_pair (congrFun (lk7 w) os) (looks_pair (congrFun (lk8 w) os) (looks_pair (congrFun (lk9 w) os) (congrFun (lk10 w) os))))))))
  have a1 := congrFun (lk4a w) os
  have a2 := congrFun (lk4b w) os
  have a3 := congrFun (lk4c1 w) os
  have a4 := congrFun (lk4c2 w) os
  have a5 := congrFun (lk4c3 w) os
  have a6 := congrFun (lk4d w) os
  have a7 := congrFun (lk4e w) os

  rw [a1, a2, a3, a4, a5, a6, if_pos rfl, a7]
  rfl
theorem body_is : behindTheImports PP0 = stsO 0 4 ++ (stsO 4 1 ++ (stsO 5 1 ++ (stsO 6 1 ++ (stsO 7 12 ++ (stsO 19 11 ++ []))))) := by kernel_rfl!
theorem run_is (w : World) (os : OsState) : topRun treeTable PP0 w 11 ann0 (12 + (1 + (85 + (999 + (30 + (((1 + (1 + (2 + 13 * 17 + (330 * 37 + (1 + 13 * 4 + (5 + 6 * 4)))))) + 8) + (211 + (301 + 2)))))))) ⟨boot_heap w.params, Array.mk [], boot_drawn, boot_toks, os⟩ (topStub PP0) = some ⟨lH w.params, Array.mk [], dr0, 2367, os⟩ := by
  have hF := congrFun (h_fin w) os
  have hE2 := segRun_of (congrFun (pcF w) os)
  have hE := segRun_of (congrFun (pcE w) os)
  have hC := segRun_of (congrFun (pcC w) os)
  have hB := segRun_of (congrFun (pcB w) os)
  have hA := segRun_of (congrFun (pcA w) os)
  have h0 := congrFun (h_block w) os
  have hP := congrFun (h_pre w) os
  have hD := seg_go (pcD1 w os) (congrFun (pcD2 w) os)

  rw [ab_p29] at hF hE2
  rw [ab_p18] at hE2 hE
  rw [ab_p6] at hE
  rw [ab_p5] at hC
  rw [ab_p4] at hC hB
  rw [ab_p3] at hB hA
  rw [ab_pre] at hA h0
  refine go_top hP (piece_block h0 ?_)
  rw [body_is]
  exact piece_app hA (piece_app hB (piece_app hC (piece_app hD (piece_app hE (piece_app hE2 (piece_nil hF))))))
theorem LO : LeftO PySem.Challenge.rw_sh0048_01.row.prog VW lo XT (Hook.obs HK) (Hook.val HK) 30000 :=
  LeftO.of_pieces (p := PP0) (H₀ := boot_heap) (H₁ := lH) (gs₀ := Array.mk []) (gs₁ := Array.mk []) (d₀ := boot_drawn) (d₁ := dr0) (k₀ := boot_toks) (k₁ := 2367) (m₀ := 11) (ann := ann0) h_open h_size run_is (by rfl) looks
end Mine
end

section
open PySem PySem.W PyProof.Rows
set_option Elab.async false
set_option maxRecDepth 100000
namespace Mine
section
open PySem.Calls
variable {prog : Program} {w : World} {A : Around} {E : Value → Shared → Prop} {s : Shared} {h₀ : Heap} {L l : Addr} {news : List (Addr × Obj)} {vs : List Value} {n : Nat} {k : Int} {u : Tok} {v : Value} {Q : Value → Shared → Prop}
/-- an item of a list of the ledger, at a written index -/
theorem item_led {value slice : Expr} (N : News h₀ L s.heap news) (hm : (l, listOf vs.toArray n) ∈ news) (h0 : 0 ≤ k) (hhi : k < 2 ^ 63) (hx : vs[k.toNat]? = some v) (h : Q v s)
    (hs : subscripted slice false (.ref l) (.int k u) = operate [.ref l, .int k u] (getItem (.ref l) (.int k u)) := by with_unfolding_all rfl) :
    wpAny (model prog w) A (subscriptTail value slice (.ref l) (.int k u)) Q E s :=
  have hL : s.heap.IsList l vs.toArray := News.isList N hm
  tail_any hL.typeIs slot_list_getitem.lookup (wpAny_getItem_list hL h0 hhi (by simpa using hx) h) hs
end
/-- the values taken: one predicate a turn, beside what its test says -/
inductive FiltAre : List (Bool × (Value → Prop)) → List Value → Prop
  | nil : FiltAre [] []
  | take {V : Value → Prop} {v : Value} {r : List (Bool × (Value → Prop))} {ys : List Value} (hv : V v) (h : FiltAre r ys) : FiltAre ((true, V) :: r) (v :: ys)
  | skip {V : Value → Prop} {r : List (Bool × (Value → Prop))} {ys : List Value} (h : FiltAre r ys) : FiltAre ((false, V) :: r) ys
noncomputable def TurnT (news : List (Addr × Obj)) (b : Bool) (V : Value → Prop) (y : Value) (news' : List (Addr × Obj)) : Prop := (∀ p ∈ news, p ∈ news') ∧ b = true ∧ V y
noncomputable def TurnF (news : List (Addr × Obj)) (b : Bool) (news' : List (Addr × Obj)) : Prop := (∀ p ∈ news, p ∈ news') ∧ b = false
theorem TurnT.mk {news news' : List (Addr × Obj)} {b : Bool} {V : Value → Prop} {y : Value} (h : ∀ p ∈ news, p ∈ news') (hb : b = true) (hy : V y) : TurnT news b V y news' := ⟨h, hb, hy⟩
theorem TurnF.mk {news news' : List (Addr × Obj)} {b : Bool} (h : ∀ p ∈ news, p ∈ news') (hb : b = false) : TurnF news b news' := ⟨h, hb⟩
noncomputable def StrIs (x : Str) (v : Value) : Prop := ∃ t, v = .str x t
noncomputable def IntIs (i : Int) (v : Value) : Prop := ∃ t, v = .int i t
theorem StrIs.mk {x : Str} {t : Tok} : StrIs x (.str x t) := ⟨t, rfl⟩
theorem IntIs.mk {i j : Int} {t : Tok} (h : j = i) : IntIs i (.int j t) := ⟨t, by rw [h]⟩
/-- two addresses apart, said out of omega's sight -/
noncomputable def NeH (a b : Nat) : Prop := a ≠ b
theorem NeH.out {a b : Nat} (h : NeH a b) : a ≠ b := h
noncomputable def Off3H (I C D : Addr) : List (Addr × Obj) → Prop
  | [] => True
  | p :: r => NeH p.1 I ∧ NeH p.1 C ∧ NeH p.1 D ∧ Off3H I C D r
theorem off3H {I C D : Addr} : ∀ {l : List (Addr × Obj)}, LCg.Off3 I C D l → Off3H I C D l
  | [], _ => trivial
  | _ :: _, ⟨⟨a, b, c⟩, r⟩ => ⟨a, b, c, off3H r⟩
noncomputable def Off1H (D : Addr) : List (Addr × Obj) → Prop
  | [] => True
  | p :: r => NeH p.1 D ∧ Off1H D r
theorem off1H {D : Addr} : ∀ {l : List (Addr × Obj)}, LCg.Off1 D l → Off1H D l
  | [], _ => trivial
  | _ :: _, ⟨a, r⟩ => ⟨a, off1H r⟩
theorem off1H_at {D b : Addr} {o : Obj} : ∀ {l : List (Addr × Obj)}, Off1H D l → (b, o) ∈ l → @Ne Nat b D
  | _ :: _, ⟨a, r⟩, h => (List.mem_cons.mp h).elim (fun e => by cases e; exact a) (off1H_at r)
theorem off1H_of {D : Addr} : ∀ {l : List (Addr × Obj)}, (∀ p ∈ l, p.1 ≠ D) → Off1H D l
  | [], _ => trivial
  | _ :: _, h => ⟨h _ (.head _), off1H_of fun p hp => h p (.tail _ hp)⟩
theorem ne3H {a b c : Nat} (h : a ≠ b ∧ a ≠ c ∧ b ≠ c) : NeH a b ∧ NeH a c ∧ NeH b c := h
noncomputable def Stop (P : Prop) : Prop := P
theorem stop_out {P : Prop} (h : Stop P) : P := h
theorem stop_in {P : Prop} (h : P) : Stop P := h
section
open LCg LCt
variable {prog : Program} {w : World} {A : Around} {h₀ : Heap} {L : Addr} {m : Str → Option Value} {env : Env}
/-- one turn of a comprehension with a test: what the test says (b), what is taken (v) -/
noncomputable def TurnAt (prog : Program) (w : World) (A : Around) (h₀ : Heap) (L : Addr) (m : Str → Option Value) (env : Env) (ct elt : Expr) (x : Str) (scope : Scope) (cl : List (Str × Addr)) (s : Shared) (S : List (Addr × Obj) → Prop) (P : Nat → Value → Prop) (news : List (Addr × Obj)) (i : Nat) (b : Bool) (v₁ : Value → Prop) : Prop :=
  ∀ v I oI C oC D m₂ h tk (E' : Value → Shared → Prop) ys, P i v → NsObj oC m₂ → m₂ x = some v → Fr h₀ L h m → News h₀ L h ((I, oI) :: (C, oC) :: (D, lst ys) :: news) → Off3 I C D news → ((@Ne Nat I C) ∧ (@Ne Nat I D) ∧ (@Ne Nat C D)) →
      wpAny (model prog w) A (isTrue ct (compEnvC scope cl C env) (eval ct (compEnvC scope cl C env))) (fun ok s' => if ok = true then
        wpAny (model prog w) A (eval elt (compEnvC scope cl C env)) (CompEnd h₀ L m { s with heap := h, toks := tk } I oI C oC D (lst ys) S (fun y news' => TurnT news b v₁ y news')) E' s'
        else CompEnd h₀ L m { s with heap := h, toks := tk } I oI C oC D (lst ys) S (fun _ news' => TurnF news b news') Value.none s') E' { s with heap := h, toks := tk }
noncomputable def TurnsAt (prog : Program) (w : World) (A : Around) (h₀ : Heap) (L : Addr) (m : Str → Option Value) (env : Env) (ct elt : Expr) (x : Str) (scope : Scope) (cl : List (Str × Addr)) (s : Shared) (S : List (Addr × Obj) → Prop) (P : Nat → Value → Prop) (news : List (Addr × Obj)) : Nat → List (Bool × (Value → Prop)) → Prop
  | _, [] => True
  | i, p :: r => TurnAt prog w A h₀ L m env ct elt x scope cl s S P news i p.1 p.2 ∧ TurnsAt prog w A h₀ L m env ct elt x scope cl s S P news (i + 1) r
theorem compEnd_drop {s₁ s₂ : Shared} {I C D : Addr} {oI oC oD : Obj} {S : List (Addr × Obj) → Prop} {r r' : Value → List (Addr × Obj) → Prop} {y : Value} {news : List (Addr × Obj)} (hS : S news) (h : CompEnd h₀ L m s₁ I oI C oC D oD S r y s₂) (k : ∀ news', r y news' → (∀ p ∈ news, p ∈ news') ∧ r' y news) : CompEnd h₀ L m s₁ I oI C oC D oD S r' y s₂ := by
  obtain ⟨h', tk, news', e, F, N, off, _, q⟩ := h
  obtain ⟨hs, q'⟩ := k _ q
  refine ⟨h', tk, news, e, F, fun p hp => N p ?_, Off3.of fun p hp => off.mem p (hs p hp), hS, q'⟩
  rcases List.mem_cons.mp hp with rfl | hp
  · exact .head _
  · rcases List.mem_cons.mp hp with rfl | hp
    · exact .tail _ (.head _)
    · rcases List.mem_cons.mp hp with rfl | hp
      · exact .tail _ (.tail _ (.head _))
      · exact .tail _ (.tail _ (.tail _ (hs p hp)))
theorem restT_from {ct elt : Expr} {x : Str} {scope : Scope} {cl : List (Str × Addr)} {s : Shared} {S : List (Addr × Obj) → Prop} {P : Nat → Value → Prop} {Fin : List Value → List (Addr × Obj) → Prop} {news : List (Addr × Obj)} (hS : S news) : ∀ (its : List (Bool × (Value → Prop))) (i : Nat) (ys : List Value),
    TurnsAt prog w A h₀ L m env ct elt x scope cl s S P news i its → (∀ zs, FiltAre its zs → Fin (ys ++ zs) news) → CompRestT prog w A h₀ L m env ct elt x scope cl s S P Fin its.length i ys news
  | [], i, ys, _, hF => CompRestT.zero (by have := hF [] .nil; rw [List.append_nil] at this; exact this)
  | (b, V) :: r, i, ys, hT, hF => CompRestT.succ fun v I oI C oC D m₂ h tk E' hv hC hx F N off ne => by
    refine wpAny_mono (hT.1 v I oI C oC D m₂ h tk E' ys hv hC hx F N off ne) (fun ok s' q => ?_) (fun _ _ q => q)
    cases ok with
    | true =>
      rw [if_pos rfl] at q ⊢
      refine wpAny_mono q (fun y s'' q => ?_) (fun _ _ q => q)
      refine compEnd_drop hS q fun news' q => ⟨q.1, ?_⟩
      obtain ⟨_, hb, hy⟩ := q
      have hb : b = true := hb
      have hy : V y := hy
      subst hb
      refine restT_from hS r (i + 1) (ys ++ [y]) hT.2 fun zs hz => ?_
      rw [List.append_assoc]
      exact hF _ (.take hy hz)
    | false =>
      rw [if_neg (by simp)] at q ⊢
      refine compEnd_drop hS q fun news' q => ⟨q.1, ?_⟩
      have hb : b = false := q.2
      subst hb
      exact restT_from hS r (i + 1) ys hT.2 fun zs hz => hF _ (.skip hz)
theorem restT {ct elt : Expr} {x : Str} {scope : Scope} {cl : List (Str × Addr)} {s : Shared} {S : List (Addr × Obj) → Prop} {P : Nat → Value → Prop} {Fin : List Value → List (Addr × Obj) → Prop} {news : List (Addr × Obj)} (its : List (Bool × (Value → Prop))) (n : Nat) (hn : n = its.length) (hS : S news)
    (hT : TurnsAt prog w A h₀ L m env ct elt x scope cl s S P news 0 its) (hF : ∀ ys, FiltAre its ys → Fin ys news) : CompRestT prog w A h₀ L m env ct elt x scope cl s S P Fin n 0 [] news := by
  subst hn
  exact restT_from hS its 0 [] hT hF
end
/-- the values of a comprehension without a test: one predicate a turn -/
inductive AreU : List (Value → Prop) → List Value → Prop
  | nil : AreU [] []
  | cons {V : Value → Prop} {v : Value} {r : List (Value → Prop)} {ys : List Value} (hv : V v) (h : AreU r ys) : AreU (V :: r) (v :: ys)
theorem AreU.four {V0 V1 V2 V3 : Value → Prop} {ys : List Value} (h : AreU [V0, V1, V2, V3] ys) : ∃ y0 y1 y2 y3, ys = [y0, y1, y2, y3] ∧ V0 y0 ∧ V1 y1 ∧ V2 y2 ∧ V3 y3 := by
  cases h with | cons h0 h => cases h with | cons h1 h => cases h with | cons h2 h => cases h with | cons h3 h => cases h with | nil => exact ⟨_, _, _, _, rfl, h0, h1, h2, h3⟩
noncomputable def TurnV (news : List (Addr × Obj)) (V : Value → Prop) (y : Value) (news' : List (Addr × Obj)) : Prop := (∀ p ∈ news, p ∈ news') ∧ V y
theorem TurnV.mk {news news' : List (Addr × Obj)} {V : Value → Prop} {y : Value} (h : ∀ p ∈ news, p ∈ news') (hy : V y) : TurnV news V y news' := ⟨h, hy⟩
section
open LCg
variable {prog : Program} {w : World} {A : Around} {h₀ : Heap} {L : Addr} {m : Str → Option Value} {env : Env}
noncomputable def TurnU (prog : Program) (w : World) (A : Around) (h₀ : Heap) (L : Addr) (m : Str → Option Value) (env : Env) (elt : Expr) (x : Str) (scope : Scope) (cl : List (Str × Addr)) (s : Shared) (S : List (Addr × Obj) → Prop) (P : Nat → Value → Prop) (news : List (Addr × Obj)) (i : Nat) (V : Value → Prop) : Prop :=
  ∀ v I oI C oC D m₂ h tk (E' : Value → Shared → Prop) ys, P i v → NsObj oC m₂ → m₂ x = some v → Fr h₀ L h m → News h₀ L h ((I, oI) :: (C, oC) :: (D, lst ys) :: news) → Off3 I C D news → ((@Ne Nat I C) ∧ (@Ne Nat I D) ∧ (@Ne Nat C D)) →
      wpAny (model prog w) A (eval elt (compEnvC scope cl C env)) (CompEnd h₀ L m { s with heap := h, toks := tk } I oI C oC D (lst ys) S (fun y news' => TurnV news V y news')) E' { s with heap := h, toks := tk }
noncomputable def TurnsU (prog : Program) (w : World) (A : Around) (h₀ : Heap) (L : Addr) (m : Str → Option Value) (env : Env) (elt : Expr) (x : Str) (scope : Scope) (cl : List (Str × Addr)) (s : Shared) (S : List (Addr × Obj) → Prop) (P : Nat → Value → Prop) (news : List (Addr × Obj)) : Nat → List (Value → Prop) → Prop
  | _, [] => True
  | i, V :: r => TurnU prog w A h₀ L m env elt x scope cl s S P news i V ∧ TurnsU prog w A h₀ L m env elt x scope cl s S P news (i + 1) r
theorem restU_from {elt : Expr} {x : Str} {scope : Scope} {cl : List (Str × Addr)} {s : Shared} {S : List (Addr × Obj) → Prop} {P : Nat → Value → Prop} {Fin : List Value → List (Addr × Obj) → Prop} {news : List (Addr × Obj)} (hS : S news) : ∀ (its : List (Value → Prop)) (i : Nat) (ys : List Value),
    TurnsU prog w A h₀ L m env elt x scope cl s S P news i its → (∀ zs, AreU its zs → Fin (ys ++ zs) news) → CompRest prog w A h₀ L m env elt x scope cl s S P Fin its.length i ys news
  | [], i, ys, _, hF => CompRest.zero (by have := hF [] .nil; rw [List.append_nil] at this; exact this)
  | V :: r, i, ys, hT, hF => CompRest.succ fun v I oI C oC D m₂ h tk E' hv hC hx F N off ne => by
    refine wpAny_mono (hT.1 v I oI C oC D m₂ h tk E' ys hv hC hx F N off ne) (fun y s'' q => ?_) (fun _ _ q => q)
    refine compEnd_drop hS q fun news' q => ⟨q.1, ?_⟩
    have hy : V y := q.2
    refine restU_from hS r (i + 1) (ys ++ [y]) hT.2 fun zs hz => ?_
    rw [List.append_assoc]
    exact hF _ (.cons hy hz)
theorem restU {elt : Expr} {x : Str} {scope : Scope} {cl : List (Str × Addr)} {s : Shared} {S : List (Addr × Obj) → Prop} {P : Nat → Value → Prop} {Fin : List Value → List (Addr × Obj) → Prop} {news : List (Addr × Obj)} (its : List (Value → Prop)) (n : Nat) (hn : n = its.length) (hS : S news)
    (hT : TurnsU prog w A h₀ L m env elt x scope cl s S P news 0 its) (hF : ∀ ys, AreU its ys → Fin ys news) : CompRest prog w A h₀ L m env elt x scope cl s S P Fin n 0 [] news := by
  subst hn
  exact restU_from hS its 0 [] hT hF
end
/-- the texts, the ints that are taken -/
noncomputable def filtL {α : Type} : List (Bool × α) → List α
  | [] => []
  | (b, v) :: r => if b = true then v :: filtL r else filtL r
theorem strsAre_filt : ∀ {l : List (Bool × Str)} {ys : List Value}, FiltAre (l.map fun p => (p.1, StrIs p.2)) ys → StrsAre ys (filtL l)
  | [], _, .nil => .nil
  | (true, x) :: r, _, .take ⟨t, e⟩ h => by subst e; exact .cons _ _ (strsAre_filt h)
  | (false, x) :: r, _, .skip h => strsAre_filt (l := r) h
theorem intsAre_filt : ∀ {l : List (Bool × Int)} {ys : List Value}, FiltAre (l.map fun p => (p.1, IntIs p.2)) ys → IntsAre ys (filtL l)
  | [], _, .nil => .nil
  | (true, x) :: r, _, .take ⟨t, e⟩ h => by subst e; exact .cons _ _ (intsAre_filt h)
  | (false, x) :: r, _, .skip h => intsAre_filt (l := r) h
theorem filtL_length {α : Type} : ∀ l : List (Bool × α), (filtL l).length ≤ l.length
  | [] => Nat.le_refl _
  | (b, v) :: r => by cases b <;> simp [filtL] <;> have := filtL_length r <;> omega
theorem filtL_le {α : Type} {k : Nat} (l : List (Bool × α)) : k + (filtL l).length ≤ k + l.length := Nat.add_le_add_left (filtL_length l) k
theorem filtS_len (B : Nat) : ∀ (l : List (Bool × Str)), (∀ p ∈ l, p.2.length < B) → ((filtL l).map (·.length)).sum ≤ B * l.length ∧ (filtL l).length ≤ l.length
  | [], _ => ⟨Nat.zero_le _, Nat.zero_le _⟩
  | (b, v) :: r, h => by
    obtain ⟨h1, h2⟩ := filtS_len B r fun p hp => h p (.tail _ hp)
    have h3 : v.length < B := h _ (.head _)
    cases b
    · simp only [filtL, List.length_cons, Nat.mul_add]; constructor <;> simp <;> omega
    · simp only [filtL, List.length_cons, Nat.mul_add]; constructor <;> simp <;> omega
theorem filtS_fits (l : List (Bool × Str)) (h : ∀ p ∈ l, p.2.length < 10) (hl : l.length ≤ 10) : ((filtL l).map (·.length)).sum + (filtL l).length ≤ 1048576 := by
  obtain ⟨h1, h2⟩ := filtS_len 10 l h
  omega
/-- is the figure of x at d a 0 to the base 2 -/
noncomputable def bitZ (x d : Int) : Bool := decide (Int.fmod (Int.fdiv x d) 2 = 0)
noncomputable def dueF (x : Int) (p0 p1 p2 p3 : Str) : Str := Txt.join (Str.ofString "") (filtL [(bitZ x 8, p0), (bitZ x 4, p1), (bitZ x 2, p2), (bitZ x 1, p3)])

/-- the rings that may be changed -/
noncomputable def freeL (b1 b2 b3 : Bool) : List Int := [3] ++ filtL [((b1 == true && (b2 == false && b3 == false)), 0), ((b2 == true && b3 == false), 1), ((b3 == true), 2)]
/-- the greatest ring that is on -/
noncomputable def onZ (b1 b2 b3 : Bool) : Int := if b3 = true then 3 else if b2 = true then 2 else if b1 = true then 1 else 0
theorem onZ_some {b0 b1 b2 b3 : Bool} (hb : (b0 || b1 || b2 || b3) = true) : 0 < (filtL [(b0, (0 : Int)), (b1, 1), (b2, 2), (b3, 3)]).length := by
  revert hb; cases b0 <;> cases b1 <;> cases b2 <;> cases b3 <;> simp [filtL]
theorem onZ_is {b0 b1 b2 b3 : Bool} {M : Int} (hM : M ∈ filtL [(b0, (0 : Int)), (b1, 1), (b2, 2), (b3, 3)]) (hm : ∀ a, a ∈ filtL [(b0, (0 : Int)), (b1, 1), (b2, 2), (b3, 3)] → a ≤ M) : M = onZ b1 b2 b3 := by
  cases b0 <;> cases b1 <;> cases b2 <;> cases b3 <;> simp [filtL, onZ] at * <;> omega
theorem filtAre_len : ∀ {its : List (Bool × (Value → Prop))} {ys : List Value}, FiltAre its ys → ys.length ≤ its.length
  | _, _, .nil => Nat.le_refl _
  | _, _, .take _ h => Nat.succ_le_succ (filtAre_len h)
  | _, _, .skip h => Nat.le_succ_of_le (filtAre_len h)
noncomputable def openL (x : Int) (b1 b2 b3 : Bool) (p0 p1 p2 p3 : Str) : List Str :=
  if b3 = true then filtL [(bitZ x 8, p0), (bitZ x 4, p1), (bitZ x 2, p2)] ++ [Str.ofString "\""] ++ [p3]
  else if b2 = true then filtL [(bitZ x 8, p0), (bitZ x 4, p1)] ++ [Str.ofString "\""] ++ [p2, p3]
  else if b1 = true then filtL [(bitZ x 8, p0)] ++ [Str.ofString "\""] ++ [p1, p2, p3]
  else filtL [] ++ [Str.ofString "\""] ++ [p0, p1, p2, p3]
noncomputable def openF (x : Int) (b1 b2 b3 : Bool) (p0 p1 p2 p3 : Str) : Str := Txt.join (Str.ofString "") (openL x b1 b2 b3 p0 p1 p2 p3)
theorem strsAre_app : ∀ {vs ws : List Value} {xs ys : List Str}, StrsAre vs xs → StrsAre ws ys → StrsAre (vs ++ ws) (xs ++ ys)
  | _, _, _, _, .nil, h => h
  | _, _, _, _, .cons y t r, h => .cons y t (strsAre_app r h)
theorem fits_app (l : List (Bool × Str)) (ys : List Str) (h : ∀ p ∈ l, p.2.length < 10) (hl : l.length ≤ 10) (hy : (ys.map (·.length)).sum + ys.length ≤ 100) : ((filtL l ++ ys).map (·.length)).sum + (filtL l ++ ys).length ≤ 1048576 := by
  obtain ⟨h1, h2⟩ := filtS_len 10 l h
  rw [List.map_append, List.sum_append, List.length_append]
  omega
end Mine
end

section
open PySem PySem.W PyProof.Rows
set_option Elab.async false
set_option maxRecDepth 100000
namespace Mine
open PySem.Spec PySem.Calls
section
variable {prog : Program} {w : World} {s : Shared} {mg mb : Str → Option Value} {K : Frag} {p : Program} {loose : List Str} {mean : ExcName → Option Value}
  {R : Result → Shared → Prop} {name qual : Str} {params : Arguments} {body : List Stmt} {scope : Scope} {dV kV doc pm cdv ct oc : Value} {an od : Option Addr} {osl : Array (Option Value)} {f : Addr} {args : Args} {binds : List (Str × Value)}
/-- the call of a def from the claim's caller -/
theorem enterTop (X₀ : K.In s.heap) (T : Top p loose mean mg mb s.heap)
    (ho : K.lookup f = some ⟨oc, od, .func (fnOf name qual params body scope dV kV doc pm an cdv ct), osl⟩) (hcd : codeIn K cdv qual = true) (hroom : callerA.depth < recursionLimit)
    (hbind : BindsTo s (fnOf name qual params body scope dV kV doc pm an cdv ct) args binds) (hkind : (binds.all fun y => scope.names.lookup y.1 == some .local || scope.names.lookup y.1 == some .cell) = true)
    (hnd : ((cellsFrom 0 scope.names []).map (·.1)).Nodup)
    (h : ∀ L' h₁ tk cells, Fr s.heap L' h₁ (bindL (envOfC qual scope L' f cdv).kindOf binds fun _ => none) → News s.heap L' h₁ cells →
      CellsAre (bindC (envOfC qual scope L' f cdv).kindOf binds fun _ => none) (cellsFrom (L' + 1) scope.names []) cells → Below callerA s.heap [] s.heap →
      wpAny (model prog w) (callerA.deeper (envOfC qual scope L' f cdv)) (execs body (envOfC qual scope L' f cdv))
        (fun fl s' => R (.ok (.ret (match fl with | .ret v => v | _ => .none))) s')
        (fun e s' => wpAny (model prog w) (callerA.deeper (envOfC qual scope L' f cdv)) (leaving (envOfC qual scope L' f cdv) e) (fun _ s'' => R (.error e) s'') (fun e' s'' => R (.error e') s'') s')
        { s with heap := h₁, toks := tk })
    (hco : scope.isCoroutine = false) (hgen : scope.isGenerator = false) (hk : scope.kind = .function) : codeAny (model prog w) callerA (.call (.ref f) args) R s := by
  refine codeAny_call_function hroom (X₀ _ _ ho) rfl hco hgen rfl (codeRec_of X₀ hcd) (hbind _ _ _ _ ?_)
  refine wpAny_newFunctionEnv_cells hk (kindsX hkind _) fun env' he s' x => ?_
  subst he
  refine ⟨T.nolimit.keeps x.toInCall.keep, codeAny_func ?_⟩
  obtain ⟨h₁, tk, rfl, _⟩ := x.done
  have k₁ := x.toInCall.keep
  obtain ⟨cells, NC, Y⟩ := Cl.news (h₀ := s.heap) (Nat.le_refl _) fun n c hm => ⟨x.cell n c (lookup_of_mem_nodup (cellsFrom_names scope.names 0 (s.heap.objs.size + 1) [] [] rfl ▸ hnd) hm), x.above n c hm⟩
  have F₁ : Fr s.heap s.heap.objs.size h₁ _ := ⟨x.toInCall.ns, k₁, Nat.le_refl _⟩
  exact h _ _ _ _ F₁ NC Y (below_caller T.heap)
end
end Mine
end

section
open PySem PySem.W PyProof.Rows
set_option Elab.async false
set_option maxRecDepth 100000
namespace Mine
open PySem.Spec PySem.Calls
/-- what is said of the body of the def at f, whose frame lies at L and which has cells -/
noncomputable def CellAt (P : List Stmt → Env → Prop) (K : Frag) (f L : Addr) : Prop := ∀ oc od name qual params body scope dV kV doc pm an cdv ct osl,
  K.lookup f = some ⟨oc, od, .func (fnOf name qual params body scope dV kV doc pm an cdv ct), osl⟩ → P body (envOfC qual scope L f cdv)
theorem cellAt_of {P : List Stmt → Env → Prop} {K : Frag} {f L : Addr} {oc od name qual params body scope dV kV doc pm an cdv ct osl}
    (ho : K.lookup f = some ⟨oc, od, .func (fnOf name qual params body scope dV kV doc pm an cdv ct), osl⟩) (h : P body (envOfC qual scope L f cdv)) : CellAt P K f L := by
  intro oc' od' name' qual' params' body' scope' dV' kV' doc' pm' an' cdv' ct' osl' ho'
  have e := Option.some.inj (ho.symm.trans ho')
  unfold fnOf at e
  cases e
  exact h
/-- the end of one statement -/
noncomputable def SegE (Post : Shared → Prop) (f : Flow) (s : Shared) : Prop := f = .next ∧ Post s
noncomputable abbrev SegAt (w : World) (mean : ExcName → Option Value) (mg mb : Str → Option Value) (s : Shared) (L' : Addr) (i : Nat) (Pre Post : Shared → Prop) : Prop :=
  (KF w.params).In s.heap → Top VW (looseW VW lo) mean mg mb s.heap → Below callerA s.heap [] s.heap →
    CellAt (fun body env => ∀ E s₁, Pre s₁ → wpAny (model PG w) (callerA.deeper env) (exec (nthS body i) env) (SegE Post) E s₁) (KF w.params) 178 L'
noncomputable def Off7 (L' : Addr) (ls : List (Addr × Obj)) : Prop := ∀ p ∈ ls, NeH (L' + 1) p.1 ∧ NeH (L' + 1 + 1) p.1 ∧ NeH (L' + 1 + 1 + 1) p.1 ∧ NeH (L' + 1 + 1 + 1 + 1) p.1 ∧ NeH (L' + 1 + 1 + 1 + 1 + 1) p.1 ∧ NeH (L' + 1 + 1 + 1 + 1 + 1 + 1) p.1 ∧ NeH (L' + 1 + 1 + 1 + 1 + 1 + 1 + 1) p.1
/-- the law's frame with its seven cells -/
noncomputable def LA (s : Shared) (L' : Addr) (fm : (Str → Option Value) → Prop) (c1 c2 c3 c4 : Option Value) (ls : List (Addr × Obj)) (s₁ : Shared) : Prop :=
  ∃ h tk gens m o1 o2 o3 o4 o5 o6 o7, s₁ = { s with heap := h, gens := gens, toks := tk } ∧ (AllBare s.gens → AllBare gens) ∧ fm m ∧ Fr s.heap L' h m ∧
    News s.heap L' h ([(L' + 1, o1), (L' + 1 + 1, o2), (L' + 1 + 1 + 1, o3), (L' + 1 + 1 + 1 + 1, o4), (L' + 1 + 1 + 1 + 1 + 1, o5), (L' + 1 + 1 + 1 + 1 + 1 + 1, o6), (L' + 1 + 1 + 1 + 1 + 1 + 1 + 1, o7)] ++ ls) ∧
    o1.data = Data.cell c1 ∧ o2.data = Data.cell c2 ∧ o3.data = Data.cell c3 ∧ o4.data = Data.cell c4 ∧ o5.data = Data.cell none ∧ o6.data = Data.cell none ∧ o7.data = Data.cell none ∧ Off7 L' ls
noncomputable def Off4 (L' : Addr) (ls : List (Addr × Obj)) : Prop := ∀ p ∈ ls, NeH (L' + 1 + 1 + 1 + 1) p.1 ∧ NeH (L' + 1 + 1 + 1 + 1 + 1) p.1 ∧ NeH (L' + 1 + 1 + 1 + 1 + 1 + 1) p.1 ∧ NeH (L' + 1 + 1 + 1 + 1 + 1 + 1 + 1) p.1
theorem off4_nil {L' : Addr} : Off4 L' [] := fun _ h => nomatch h
theorem off4_cons {L' : Addr} {p : Addr × Obj} {ls : List (Addr × Obj)} (h4 : NeH (L' + 1 + 1 + 1 + 1) p.1) (h5 : NeH (L' + 1 + 1 + 1 + 1 + 1) p.1) (h6 : NeH (L' + 1 + 1 + 1 + 1 + 1 + 1) p.1) (h7 : NeH (L' + 1 + 1 + 1 + 1 + 1 + 1 + 1) p.1) (r : Off4 L' ls) : Off4 L' (p :: ls) := fun q hq => by
  rcases List.mem_cons.mp hq with rfl | hq
  · exact ⟨h4, h5, h6, h7⟩
  · exact r _ hq
/-- the law's frame with its last four cells: pieces, rings, told, last -/
noncomputable def LD (s : Shared) (L' : Addr) (fm : (Str → Option Value) → Prop) (c4 c5 c6 c7 : Option Value) (ls : List (Addr × Obj)) (s₁ : Shared) : Prop :=
  ∃ h tk gens m o4 o5 o6 o7, s₁ = { s with heap := h, gens := gens, toks := tk } ∧ (AllBare s.gens → AllBare gens) ∧ fm m ∧ Fr s.heap L' h m ∧
    News s.heap L' h ([(L' + 1 + 1 + 1 + 1, o4), (L' + 1 + 1 + 1 + 1 + 1, o5), (L' + 1 + 1 + 1 + 1 + 1 + 1, o6), (L' + 1 + 1 + 1 + 1 + 1 + 1 + 1, o7)] ++ ls) ∧
    o4.data = Data.cell c4 ∧ o5.data = Data.cell c5 ∧ o6.data = Data.cell c6 ∧ o7.data = Data.cell c7 ∧ Off4 L' ls
theorem news_pick {h₀ h : Heap} {L : Addr} {news rest : List (Addr × Obj)} {p : Addr × Obj} (N : News h₀ L h news) (hm : p ∈ news) (R : News h₀ L h rest) : News h₀ L h (p :: rest) := fun q hq => by
  rcases List.mem_cons.mp hq with rfl | hq
  · exact N _ hm
  · exact R _ hq
theorem off7_nil {L' : Addr} : Off7 L' [] := fun _ h => nomatch h
theorem off7_cons {L' : Addr} {p : Addr × Obj} {ls : List (Addr × Obj)} (h1 : NeH (L' + 1) p.1) (h2 : NeH (L' + 1 + 1) p.1) (h3 : NeH (L' + 1 + 1 + 1) p.1) (h4 : NeH (L' + 1 + 1 + 1 + 1) p.1) (h5 : NeH (L' + 1 + 1 + 1 + 1 + 1) p.1) (h6 : NeH (L' + 1 + 1 + 1 + 1 + 1 + 1) p.1) (h7 : NeH (L' + 1 + 1 + 1 + 1 + 1 + 1 + 1) p.1) (r : Off7 L' ls) : Off7 L' (p :: ls) := fun q hq => by
  rcases List.mem_cons.mp hq with rfl | hq
  · exact ⟨h1, h2, h3, h4, h5, h6, h7⟩
  · exact r _ hq
theorem LA.mk {s : Shared} {L' : Addr} {fm : (Str → Option Value) → Prop} {c1 c2 c3 c4 : Option Value} {ls news : List (Addr × Obj)} {h : Heap} {tk : Nat} {gens : Array GenState} {m : Str → Option Value} {o1 o2 o3 o4 o5 o6 o7 : Obj}
    (bare : AllBare s.gens → AllBare gens) (F : Fr s.heap L' h m) (hm : fm m) (N : News s.heap L' h news)
    (h1 : (L' + 1, o1) ∈ news) (h2 : (L' + 1 + 1, o2) ∈ news) (h3 : (L' + 1 + 1 + 1, o3) ∈ news) (h4 : (L' + 1 + 1 + 1 + 1, o4) ∈ news) (h5 : (L' + 1 + 1 + 1 + 1 + 1, o5) ∈ news) (h6 : (L' + 1 + 1 + 1 + 1 + 1 + 1, o6) ∈ news) (h7 : (L' + 1 + 1 + 1 + 1 + 1 + 1 + 1, o7) ∈ news)
    (e1 : o1.data = Data.cell c1) (e2 : o2.data = Data.cell c2) (e3 : o3.data = Data.cell c3) (e4 : o4.data = Data.cell c4) (e5 : o5.data = Data.cell none) (e6 : o6.data = Data.cell none) (e7 : o7.data = Data.cell none)
    (hls : ∀ p ∈ ls, p ∈ news) (off : Off7 L' ls) : LA s L' fm c1 c2 c3 c4 ls { s with heap := h, gens := gens, toks := tk } :=
  ⟨h, tk, gens, m, o1, o2, o3, o4, o5, o6, o7, rfl, bare, hm, F, news_pick N h1 (news_pick N h2 (news_pick N h3 (news_pick N h4 (news_pick N h5 (news_pick N h6 (news_pick N h7 fun p hp => N _ (hls p hp))))))), e1, e2, e3, e4, e5, e6, e7, off⟩
theorem LD.mk {s : Shared} {L' : Addr} {fm : (Str → Option Value) → Prop} {c4 c5 c6 c7 : Option Value} {ls news : List (Addr × Obj)} {h : Heap} {tk : Nat} {gens : Array GenState} {m : Str → Option Value} {o4 o5 o6 o7 : Obj}
    (bare : AllBare s.gens → AllBare gens) (F : Fr s.heap L' h m) (hm : fm m) (N : News s.heap L' h news)
    (h4 : (L' + 1 + 1 + 1 + 1, o4) ∈ news) (h5 : (L' + 1 + 1 + 1 + 1 + 1, o5) ∈ news) (h6 : (L' + 1 + 1 + 1 + 1 + 1 + 1, o6) ∈ news) (h7 : (L' + 1 + 1 + 1 + 1 + 1 + 1 + 1, o7) ∈ news)
    (e4 : o4.data = Data.cell c4) (e5 : o5.data = Data.cell c5) (e6 : o6.data = Data.cell c6) (e7 : o7.data = Data.cell c7)
    (hls : ∀ p ∈ ls, p ∈ news) (off : Off4 L' ls) : LD s L' fm c4 c5 c6 c7 ls { s with heap := h, gens := gens, toks := tk } :=
  ⟨h, tk, gens, m, o4, o5, o6, o7, rfl, bare, hm, F, news_pick N h4 (news_pick N h5 (news_pick N h6 (news_pick N h7 fun p hp => N _ (hls p hp)))), e4, e5, e6, e7, off⟩
/-- the parts of a state, without a tower of cases -/
theorem LA.each {s : Shared} {L' : Addr} {fm : (Str → Option Value) → Prop} {c1 c2 c3 c4 : Option Value} {ls : List (Addr × Obj)} {P : Shared → Prop}
    (k : ∀ h tk gens m o1 o2 o3 o4 o5 o6 o7, (AllBare s.gens → AllBare gens) → fm m → Fr s.heap L' h m → News s.heap L' h ((L' + 1, o1) :: (L' + 1 + 1, o2) :: (L' + 1 + 1 + 1, o3) :: (L' + 1 + 1 + 1 + 1, o4) :: (L' + 1 + 1 + 1 + 1 + 1, o5) :: (L' + 1 + 1 + 1 + 1 + 1 + 1, o6) :: (L' + 1 + 1 + 1 + 1 + 1 + 1 + 1, o7) :: ls) → o1.data = Data.cell c1 → o2.data = Data.cell c2 → o3.data = Data.cell c3 → o4.data = Data.cell c4 → o5.data = Data.cell none → o6.data = Data.cell none → o7.data = Data.cell none → Off7 L' ls → P { s with heap := h, gens := gens, toks := tk }) :
    ∀ s₁, LA s L' fm c1 c2 c3 c4 ls s₁ → P s₁ := by
  rintro s₁ ⟨h, tk, gens, m, o1, o2, o3, o4, o5, o6, o7, rfl, bare, hm, F, N, e1, e2, e3, e4, e5, e6, e7, off⟩
  exact k h tk gens m o1 o2 o3 o4 o5 o6 o7 bare hm F N e1 e2 e3 e4 e5 e6 e7 off
theorem LD.each {s : Shared} {L' : Addr} {fm : (Str → Option Value) → Prop} {c4 c5 c6 c7 : Option Value} {ls : List (Addr × Obj)} {P : Shared → Prop}
    (k : ∀ h tk gens m o4 o5 o6 o7, (AllBare s.gens → AllBare gens) → fm m → Fr s.heap L' h m → News s.heap L' h ((L' + 1 + 1 + 1 + 1, o4) :: (L' + 1 + 1 + 1 + 1 + 1, o5) :: (L' + 1 + 1 + 1 + 1 + 1 + 1, o6) :: (L' + 1 + 1 + 1 + 1 + 1 + 1 + 1, o7) :: ls) → o4.data = Data.cell c4 → o5.data = Data.cell c5 → o6.data = Data.cell c6 → o7.data = Data.cell c7 → Off4 L' ls → P { s with heap := h, gens := gens, toks := tk }) :
    ∀ s₁, LD s L' fm c4 c5 c6 c7 ls s₁ → P s₁ := by
  rintro s₁ ⟨h, tk, gens, m, o4, o5, o6, o7, rfl, bare, hm, F, N, e4, e5, e6, e7, off⟩
  exact k h tk gens m o4 o5 o6 o7 bare hm F N e4 e5 e6 e7 off
theorem off4_sub {L' : Addr} {ls ls' : List (Addr × Obj)} (h : Off4 L' ls) (sub : ∀ p ∈ ls', p ∈ ls) : Off4 L' ls' := fun p hp => h p (sub p hp)
theorem off7_sub {L' : Addr} {ls ls' : List (Addr × Obj)} (h : Off7 L' ls) (sub : ∀ p ∈ ls', p ∈ ls) : Off7 L' ls' := fun p hp => h p (sub p hp)
theorem off7_sub4 {L' : Addr} {ls ls' : List (Addr × Obj)} (h : Off7 L' ls) (sub : ∀ p ∈ ls', p ∈ ls) : Off4 L' ls' := fun p hp => ⟨(h p (sub p hp)).2.2.2.1, (h p (sub p hp)).2.2.2.2.1, (h p (sub p hp)).2.2.2.2.2.1, (h p (sub p hp)).2.2.2.2.2.2⟩
theorem off4_consO {L' : Addr} {p : Addr × Obj} {ls ls' : List (Addr × Obj)} (h : Off4 L' ls) (m : p ∈ ls) (r : Off4 L' ls') : Off4 L' (p :: ls') := fun q hq => (List.mem_cons.mp hq).elim (fun e => e ▸ h p m) (r q)
theorem off7_a {L' b : Addr} {o : Obj} {ls : List (Addr × Obj)} (h : Off7 L' ls) (hp : (b, o) ∈ ls) : @Ne Nat (L' + 1) b := (h _ hp).1
theorem off7_b {L' b : Addr} {o : Obj} {ls : List (Addr × Obj)} (h : Off7 L' ls) (hp : (b, o) ∈ ls) : @Ne Nat (L' + 1 + 1) b := (h _ hp).2.1
theorem off7_c {L' b : Addr} {o : Obj} {ls : List (Addr × Obj)} (h : Off7 L' ls) (hp : (b, o) ∈ ls) : @Ne Nat (L' + 1 + 1 + 1) b := (h _ hp).2.2.1
theorem off7_d {L' b : Addr} {o : Obj} {ls : List (Addr × Obj)} (h : Off7 L' ls) (hp : (b, o) ∈ ls) : @Ne Nat (L' + 1 + 1 + 1 + 1) b := (h _ hp).2.2.2.1
theorem off7_e {L' b : Addr} {o : Obj} {ls : List (Addr × Obj)} (h : Off7 L' ls) (hp : (b, o) ∈ ls) : @Ne Nat (L' + 1 + 1 + 1 + 1 + 1) b := (h _ hp).2.2.2.2.1
theorem off7_f {L' b : Addr} {o : Obj} {ls : List (Addr × Obj)} (h : Off7 L' ls) (hp : (b, o) ∈ ls) : @Ne Nat (L' + 1 + 1 + 1 + 1 + 1 + 1) b := (h _ hp).2.2.2.2.2.1
theorem off7_g {L' b : Addr} {o : Obj} {ls : List (Addr × Obj)} (h : Off7 L' ls) (hp : (b, o) ∈ ls) : @Ne Nat (L' + 1 + 1 + 1 + 1 + 1 + 1 + 1) b := (h _ hp).2.2.2.2.2.2
theorem off4_d {L' b : Addr} {o : Obj} {ls : List (Addr × Obj)} (h : Off4 L' ls) (hp : (b, o) ∈ ls) : @Ne Nat (L' + 1 + 1 + 1 + 1) b := (h _ hp).1
theorem off4_e {L' b : Addr} {o : Obj} {ls : List (Addr × Obj)} (h : Off4 L' ls) (hp : (b, o) ∈ ls) : @Ne Nat (L' + 1 + 1 + 1 + 1 + 1) b := (h _ hp).2.1
theorem off4_f {L' b : Addr} {o : Obj} {ls : List (Addr × Obj)} (h : Off4 L' ls) (hp : (b, o) ∈ ls) : @Ne Nat (L' + 1 + 1 + 1 + 1 + 1 + 1) b := (h _ hp).2.2.1
theorem off4_g {L' b : Addr} {o : Obj} {ls : List (Addr × Obj)} (h : Off4 L' ls) (hp : (b, o) ∈ ls) : @Ne Nat (L' + 1 + 1 + 1 + 1 + 1 + 1 + 1) b := (h _ hp).2.2.2
theorem LA.toLD {s : Shared} {L' : Addr} {fm : (Str → Option Value) → Prop} {c1 c2 c3 c4 : Option Value} {ls ls' : List (Addr × Obj)} {s₁ : Shared} (h : LA s L' fm c1 c2 c3 c4 ls s₁) (sub : ∀ p ∈ ls', p ∈ ls) : LD s L' fm c4 none none none ls' s₁ := by
  obtain ⟨h, tk, gens, m, o1, o2, o3, o4, o5, o6, o7, rfl, bare, hm, F, N, e1, e2, e3, e4, e5, e6, e7, off⟩ := h
  exact LD.mk bare F hm N (by simp) (by simp) (by simp) (by simp) e4 e5 e6 e7 (fun p hp => List.mem_append_right _ (sub p hp)) fun p hp => (off p (sub p hp)).2.2.2
theorem fr_knownG {hg h : Heap} {G : Addr} {m : Str → Option Value} {x : Str} {v : Value} (F : Fr hg G h m) (e : m x = some v) : Fr hg G h (fun y => if y = x then some v else m y) := by
  have : m = fun y => if y = x then some v else m y := funext fun y => by
    by_cases c : y = x
    · rw [if_pos c, c, e]
    · rw [if_neg c]
  rw [← this]; exact F
theorem fr_known2G {hg h : Heap} {G : Addr} {m : Str → Option Value} {x y : Str} {v u : Value} (F : Fr hg G h m) (e : m x = some v) (e2 : m y = some u) : Fr hg G h (fun z => if z = x then some v else if z = y then some u else m z) := by
  have : m = fun z => if z = x then some v else if z = y then some u else m z := funext fun z => by
    by_cases c : z = x
    · rw [if_pos c, c, e]
    · rw [if_neg c]
      by_cases c2 : z = y
      · rw [if_pos c2, c2, e2]
      · rw [if_neg c2]
  rw [← this]; exact F
theorem fr_known3G {hg h : Heap} {G : Addr} {m : Str → Option Value} {x y z : Str} {v u t : Value} (F : Fr hg G h m) (e : m x = some v) (e2 : m y = some u) (e3 : m z = some t) : Fr hg G h (fun a => if a = x then some v else if a = y then some u else if a = z then some t else m a) := by
  have : m = fun a => if a = x then some v else if a = y then some u else if a = z then some t else m a := funext fun a => by
    by_cases c : a = x
    · rw [if_pos c, c, e]
    · rw [if_neg c]
      by_cases c2 : a = y
      · rw [if_pos c2, c2, e2]
      · rw [if_neg c2]
        by_cases c3 : a = z
        · rw [if_pos c3, c3, e3]
        · rw [if_neg c3]
  rw [← this]; exact F
noncomputable abbrev intL (xs : List Int) (ts : List Tok) : List Value := (xs.zip ts).map fun p => .int p.1 p.2
end Mine
end

section
open PySem PySem.W PyProof.Rows
set_option Elab.async false
set_option maxRecDepth 100000
namespace Mine
local macro_rules | `(tactic| ke_room) => `(tactic| ktr_units)
local macro_rules | `(tactic| kmk_sum) => `(tactic| exact Nat.le_trans (filtL_le _) (by first | decide | exact Nat.le_of_ble_eq_true rfl))
local macro_rules | `(tactic| k_ne) => `(tactic| ((try dsimp only); first | exact NeH.out (by assumption) | exact Ne.symm (NeH.out (by assumption)) | exact off1H_at (by with_reducible assumption) (by k_mem) | exact Ne.symm (off1H_at (by with_reducible assumption) (by k_mem)) | (refine neN ?_; omega)))
local macro_rules | `(tactic| walk_at $s:str) => `(tactic| k_extra $s)

section
noncomputable abbrev RetDrawn (news : List (Addr × Obj)) (h₀ : Heap) (L : Addr) (m : Str → Option Value) (s : Shared) (Q : Value → Shared → Prop) : Prop :=
  ∀ (a b c : Int) ta tb tc l n h' tk', (0 ≤ a ∧ a < 1000000) → (0 ≤ b ∧ b < 1000000) → (0 ≤ c ∧ c < 1000000) → Fr h₀ L h' m → News h₀ L h' ((l, listOf [.int a ta, .int b tb, .int c tc].toArray n) :: news) → (∀ p ∈ news, p.1 ≠ l) → Q (.ref l) { s with heap := h', toks := tk' }

noncomputable abbrev RetDrawnB (lp : Addr) (vs : List Value) (news : List (Addr × Obj)) (h₀ : Heap) (L : Addr) (m : Str → Option Value) (s : Shared) (Q : Value → Shared → Prop) : Prop := h₀.IsList lp vs.toArray ∧ RetDrawn news h₀ L m s Q
theorem isList_keep {h h' : Heap} {a : Addr} {vs : Array Value} (hl : h.IsList a vs) (k : ∀ b o, h.get? b = some o → h'.get? b = some o) : h'.IsList a vs := let ⟨o, e, r⟩ := hl; ⟨o, k _ _ e, r⟩
theorem dr_state {d : List Int} {i : Nat} {z : Int} (h : d.length = 3) (hb : ∀ x ∈ d, 0 ≤ x ∧ x < 1000000) : (d.set i (z.fmod (10 ^ Int.toNat 6))).length = 3 ∧ ∀ x ∈ d.set i (z.fmod (10 ^ Int.toNat 6)), 0 ≤ x ∧ x < 1000000 := by
  refine ⟨by rw [List.length_set]; exact h, fun x hx => ?_⟩
  rcases List.mem_or_eq_of_mem_set hx with hx | hx
  · exact hb x hx
  · rw [hx]; exact ⟨fmod_lo _ (by decide), fmod_hi _ (by decide)⟩
theorem drawn3 {us : List Value} {zs : List Int} (hI : IntsAre us zs) (h3 : zs.length = 3) (hb : ∀ x ∈ zs, 0 ≤ x ∧ x < 1000000) : ∃ (a b c : Int) (ta tb tc : Tok), us = [.int a ta, .int b tb, .int c tc] ∧ (0 ≤ a ∧ a < 1000000) ∧ (0 ≤ b ∧ b < 1000000) ∧ (0 ≤ c ∧ c < 1000000) := by
  cases hI with
  | nil => cases h3
  | cons a ta h1 => cases h1 with
    | nil => cases h3
    | cons b tb h2 => cases h2 with
      | nil => cases h3
      | cons c tc h4 => cases h4 with
        | nil => exact ⟨a, b, c, ta, tb, tc, rfl, hb a (by simp), hb b (by simp), hb c (by simp)⟩
        | cons d td h5 => simp at h3
set_option maxHeartbeats 0 in
theorem c_drawn (w : World) (lp : Addr) (vs : List Value) (ns : List Int) (hi : IntsAre vs ns) (hlen : ns.length ≤ 63) (news : List (Addr × Obj)) : Ctr w 5 50 134 [.ref lp] news (RetDrawnB lp vs news) := by
  k_with "LeaveK" => (k_dflt (refine' leaveM ?hM ?hN ?G ?k1 ?k2 ?sub ?_; (case G => assumption); (case hM => assumption); (case hN => assumption); (case k1 => k_asm); (case k2 => k_asm); (case sub => lcg_sub)); intro kF kN kM; (try dsimp only))
  k_with "CompSrcT" => (k_here; k_dflt (first | (refine LCt.CompSrcT.range (n := 4) (by rfl) (by k_asm) (by k_asm) (by assumption) (by first | decide | rfl) (by first | rfl | decide) (by first | size_fits | exact Nat.le_of_ble_eq_true rfl) ?_; intro g') | (refine LCt.CompSrcT.range (n := 3) (by rfl) (by k_asm) (by k_asm) (by assumption) (by first | decide | rfl) (by first | rfl | decide) (by first | size_fits | exact Nat.le_of_ble_eq_true rfl) ?_; intro g') | (refine LCt.CompSrcT.range (n := 2) (by rfl) (by k_asm) (by k_asm) (by assumption) (by first | decide | rfl) (by first | rfl | decide) (by first | size_fits | exact Nat.le_of_ble_eq_true rfl) ?_; intro g') | (refine LCt.CompSrcT.range (n := 1) (by rfl) (by k_asm) (by k_asm) (by assumption) (by first | decide | rfl) (by first | rfl | decide) (by first | size_fits | exact Nat.le_of_ble_eq_true rfl) ?_; intro g') | (refine LCt.CompSrcT.range (n := 0) (by rfl) (by k_asm) (by k_asm) (by assumption) (by first | decide | rfl) (by first | rfl | decide) (by first | size_fits | exact Nat.le_of_ble_eq_true rfl) ?_; intro g')))
  k_with "CompRestT" => (refine stop_out ?_)
  k_with "TurnT" => (refine TurnT.mk (by first | exact fun _ h => h | lcg_sub) ?_ (by first | exact StrIs.mk | exact IntIs.mk (by first | rfl | decide | omega)); (try dsimp only); first | assumption | (with_unfolding_all exact decide_eq_true (by assumption)) | (simp_all; done))
  k_with "TurnF" => (refine TurnF.mk (by first | exact fun _ h => h | lcg_sub) ?_; (try dsimp only); first | assumption | (with_unfolding_all exact decide_eq_false (by assumption)) | (simp_all; done))
  k_with "eval ListComp" => (k_here; (with_reducible show wpAny _ _ (eval (Expr.ListComp _ _ _ _) _) _ _ _); first | (lct_look; lcg_calm; k_dflt (refine LCt.ListComp_T (F₀ := by k_asm) (by with_unfolding_all rfl) (by decide) (by rfl) (by decide) (by rfl) ?_); k_dflt lct_toSrc) | (lcf_look; lcg_calm; k_dflt (refine LCg.ListComp_U (F₀ := by k_asm) (by with_unfolding_all rfl) (by decide) (by rfl) (by decide) (by rfl) ?_); k_dflt lcg_toSrc) | (lcg_look; lcg_calm; k_dflt (refine LCg.ListComp_U (F₀ := by k_asm) (by rfl) (by decide) (by rfl) (by decide) (by rfl) ?_); k_dflt lcg_toSrc))
  k_with "binaryOp Mult ref int" => (k_here; (with_reducible show wpAny _ _ (binaryOp Operator.Mult (Value.ref _) (Value.int _ _)) _ _ _); k_dflt (refine' KMa.mul ?F ?N ?l ?lo ?hi ?z ?e ?_; (case F => k_asm); (case N => k_asm); (case l => is_list); (case lo => first | omega | decide); (case hi => first | omega | decide); (case z => (simp only [List.length_cons, List.length_nil]; decide)); (case e => (simp only [Int.sub_zero, Int.sub_self, Int.reduceSub, Int.reduceToNat, Int.toNat_zero, List.replicate_succ, List.replicate_zero, List.flatten_cons, List.flatten_nil, List.cons_append, List.nil_append, List.append_nil]; first | done | exact rfl)); k_whole); intro D' h' F' N' l1; (try k_lt l1); (try k_sweep))
  k_with "CompRest" => (refine stop_out ?_)
  k_with "CompEnd" => k_dflt (first | (refine LCg.CompEnd.intro (by assumption) (by assumption) _ (fun _ h => h) (by assumption) (by lcg_src) ?_) | (refine LCg.CompEnd.intro (by assumption) (by assumption) _ (fun _ h => List.Mem.tail _ h) (by assumption) (by lcg_src) ?_))
  k_with "TurnV" => (refine TurnV.mk (fun _ h => h) (by first | exact StrIs.mk | exact IntIs.mk (by first | rfl | decide | omega) | rfl))
  k_with "FinE" => ((unfold LCg.FinE); intro D' h' tk' F' N' o1'; (replace o1' := off1H o1'); (try simp only [List.nil_append, List.cons_append] at N'); (try simp only [List.nil_append, List.cons_append] at o1'); (try dsimp only))
  k_with "FinA" => ((unfold LCg.FinA); intro D' h' tk' F' N' o1'; (replace o1' := off1H o1'); (try simp only [List.nil_append, List.cons_append] at N'); (try simp only [List.nil_append, List.cons_append] at o1'); (try dsimp only))
  k_with "subscriptTail Name Name ref int" => (k_here; (with_reducible show wpAny _ _ (subscriptTail _ _ (Value.ref _) (Value.int _ _)) _ _ _); k_dflt (refine' item_led ?N ?m ?a ?b ?x ?_; (case N => k_asm); (case m => k_mem); (case a => decide); (case b => decide); (case x => exact rfl)))
  k_with "subscriptTail Name Constant ref int" => (k_here; (with_reducible show wpAny _ _ (subscriptTail _ _ (Value.ref _) (Value.int _ _)) _ _ _); k_dflt (refine' item_led ?N ?m ?a ?b ?x ?_; (case N => k_asm); (case m => k_mem); (case a => decide); (case b => decide); (case x => exact rfl)))
  k_with "subscriptTail Name BinOp ref int" => (k_here; (with_reducible show wpAny _ _ (subscriptTail _ _ (Value.ref _) (Value.int _ _)) _ _ _); k_dflt (refine' item_led ?N ?m ?a ?b ?x ?_; (case N => k_asm); (case m => k_mem); (case a => decide); (case b => decide); (case x => exact rfl)))
  k_with "eval Name" => (k_here; (with_reducible show wpAny _ _ (eval (Expr.Name _ _) (compEnvC _ _ _ _)) _ _ _); k_dflt (first | (refine' lcf_cell ?N ?c ?m ?d ?_ ?a ?b; (case b => exact rfl); (case a => exact rfl); (case N => k_asm); (case c => exact rfl); (case m => k_mem); (case d => k_asm)) | (refine' LCgL.ld_own ?N ?m ?h ?x ?_ ?a ?b; (case b => exact rfl); (case a => exact rfl); (case N => k_asm); (case x => with_reducible assumption); (case m => k_mem); (case h => with_reducible assumption))))
  delta Ctr PG lo; k_fill
  intro mean mg mb dp un gd cn cs a ccd cl outer A₀ base h₀ L m s Q E B F X N T hk hd hu hret
  obtain ⟨hl0, hret⟩ := hret
  have NA := (news_nil (h₀ := h₀) (L := L) (h := s.heap))
  refine wpAny_call ?_
  k_dflt (refine' enterM ?k1 ?k2 ?k3 ?kM ?k4 ?k5 ?kA ?kF ?kK ?k6 ?k7 ?k8 ?k9 ?kB ?_ ?c2 ?c3 ?c4 ?c5; (case kA => exact rfl); (case kF => exact rfl); (case kK => assumption); (case k1 => k_asm); (case k2 => k_asm); (case k3 => k_asm); (case kM => exact N); (case k4 => exact NA); (case k5 => k_asm); (case k6 => k_is); (case k7 => k_is); (case k8 => ktr_room); (case k9 => first | exact BindsTo.of_eq rfl | exact binds_K (by k_in) rfl (by k_is) rfl rfl rfl); (case c5 => decide); (case kB => exact locs rfl); (case c2 => exact rfl); (case c3 => exact rfl); (case c4 => exact rfl); k_whole; intro g' L' h' G' FG' F' N' B' X' T' l1; (try k_lt l1); (try dsimp only); (try k_lift B'); (try k_fold))
  k_with "pyIter ref" => k_state (fun pre drawn => drawn.length = 3 ∧ ∀ x ∈ drawn, 0 ≤ x ∧ x < 1000000) "drawn"
  k_with "state" => exact dr_state (by assumption) (by assumption)
  have hl1 : g'.IsList lp vs.toArray := isList_keep hl0 FG'.keep
  k_steps
  obtain ⟨a9, b9, c9, ta9, tb9, tc9, e9, ha9, hb9, hc9⟩ := drawn3 kFacts (by assumption) (by assumption)
  subst e9
  exact hret _ _ _ _ _ _ _ _ _ _ ha9 hb9 hc9 (by assumption) (news_add (news_cons (by assumption) (.tail _ (.head _))) (by assumption)) (new_ne (by assumption) (news_cons kNews (.tail _ (.head _))) (by k_all))
  k_with_none
end

section
open LCg LCt
section
variable {prog : Program} {w : World} {A : Around} {E : Value → Shared → Prop} {s : Shared} {h₀ : Heap} {L : Addr} {m : Str → Option Value} {env : Env}
noncomputable def SrcS (prog : Program) (w : World) (A : Around) (h₀ : Heap) (L : Addr) (m : Str → Option Value) (env : Env) (ct elt : Expr) (x : Str) (scope : Scope) (cl : List (Str × Addr)) (Fin : Shared → List Value → List (Addr × Obj) → Prop) (xv : Value) (s₁ : Shared) : Prop :=
  ∃ raw t news, xv = .str raw t ∧ A.handled = none ∧ Fr h₀ L s₁.heap m ∧ News h₀ L s₁.heap news ∧ raw.cps.size ≤ sizeLine ∧
    ∀ s₂ : Shared, (∃ h, s₂ = { s₁ with heap := h }) → CompRestT prog w A h₀ L m env ct elt x scope cl s₂ (fun _ => True) (fun i v => ∃ c u, raw.cps[i]? = some c ∧ v = .str ⟨#[c]⟩ u) (Fin s₂) raw.cps.size 0 [] news
theorem listComp_S {ct elt iter : Expr} {x : Str} {px : Pos} {scope : Scope} {cl : List (Str × Addr)} {pos : Pos} {Q : Value → Shared → Prop} (F₀ : Fr h₀ L s.heap m)
    (hclos : closureFor scope env = pure cl) (hcell : ∀ y ∈ scope.names, y.2 ≠ .cell) (hkind : scope.kind = .function)
    (hnames : ∀ y ∈ scope.names, y.2 = .local → scope.names.lookup y.1 = some .local) (hx : scope.names.lookup x = some .local)
    (h : wpAny (model prog w) A (eval iter env) (SrcS prog w A h₀ L m env ct elt x scope cl (fun s₂ => FinE h₀ L m s₂ Q)) E s)
    (hs : ∀ x, foldedSetIterable iter env x = pure x := by intro _; rfl) :
    wpAny (model prog w) A (eval (.ListComp elt [⟨.Name x px, iter, [ct], 0⟩] scope pos) env) Q E s := by
  rw [eval_ListComp]
  refine wpAny_comprehension_free (use := none) rfl hs hclos hkind hnames (wpAny_mono h (fun xv s₁ h₁ => ?_) fun _ _ e => e)
  obtain ⟨raw, t, news, rfl, hh, F, N, hsz, R⟩ := h₁
  have fin : ∀ s₂ : Shared, (∀ D C h tk m' ys news', Fr h₀ L h m → News h₀ L h ((D, lst ys) :: news') → Off1 D news' → h.Ns C m' → h₀.get? C = none → h₀.get? D = none → C ≠ L → D ≠ L → C ≠ D → (∀ p ∈ news', p.1 ≠ C) → FinE h₀ L m s₂ Q ys news' →
      ∃ m', h.Ns C m' ∧ ∀ h'', Heap.SameBut C h h'' → Q (.ref D) { s₂ with heap := h'', toks := tk }) := by
    intro s₂ D C h tk m' ys news' F' N' o1 hn hC₀ hD₀ hCL hDL hCD offC fin
    refine ⟨m', hn, fun h'' hs'' => fin D h'' tk (F'.change hs'' hCL hC₀) (fun p hp => ?_) o1⟩
    refine ⟨hs''.extBut _ _ ?_ (N' p hp).1, (N' p hp).2⟩
    rcases List.mem_cons.mp hp with rfl | hp
    · exact Ne.symm hCD
    · exact offC p hp
  cases ha : raw.cps.all (· < 128)
  · refine wpAny_pyIter_wide ha ?_
    have up : ∀ b o, s₁.heap.get? b = some o → (s₁.heap.push { cls := .type "str_iterator", data := .fields #[.str raw t, .int 0 0] }).get? b = some o := fun b o e => Heap.get?_push_of_some _ e
    refine block_T (S := fun _ => True) (Walks.strWide hh s₁.heap.objs.size raw t) hsz (fun i h st => by obtain ⟨o, e, _⟩ := st; exact ⟨o, e⟩) (fun i h h' o nw st e1 e2 _ _ _ => by
        obtain ⟨o', e3, r⟩ := st; rw [e1] at e3; cases e3; exact ⟨_, e2, r⟩) hcell hkind hx ⟨_, Heap.get?_push_size _ rfl, rfl, rfl⟩ (fun b hb => ?_)
      (F.keeps up) (N.grown up) (Nat.ne_of_lt F.ns.lt) (next_is_new F) (fun p hp => Nat.ne_of_lt (Heap.lt_size (N p hp).1)) trivial (R _ ⟨_, rfl⟩) ?_
    · rw [List.mem_singleton.mp hb]
      show s₁.heap.objs.size < (s₁.heap.push _).objs.size
      rw [Heap.size_push]; exact Nat.lt_succ_self _
    · exact fin _
  · refine wpAny_pyIter_ascii ha ?_
    have up : ∀ b o, s₁.heap.get? b = some o → (s₁.heap.push { cls := .type "str_ascii_iterator", data := .fields #[.str raw t, .int 0 0] }).get? b = some o := fun b o e => Heap.get?_push_of_some _ e
    refine block_T (S := fun _ => True) (Walks.strAscii hh s₁.heap.objs.size raw t) hsz (fun i h st => by obtain ⟨o, e, _⟩ := st; exact ⟨o, e⟩) (fun i h h' o nw st e1 e2 _ _ _ => by
        obtain ⟨o', e3, r⟩ := st; rw [e1] at e3; cases e3; exact ⟨_, e2, r⟩) hcell hkind hx ⟨_, Heap.get?_push_size _ rfl, rfl, rfl⟩ (fun b hb => ?_)
      (F.keeps up) (N.grown up) (Nat.ne_of_lt F.ns.lt) (next_is_new F) (fun p hp => Nat.ne_of_lt (Heap.lt_size (N p hp).1)) trivial (R _ ⟨_, rfl⟩) ?_
    · rw [List.mem_singleton.mp hb]
      show s₁.heap.objs.size < (s₁.heap.push _).objs.size
      rw [Heap.size_push]; exact Nat.lt_succ_self _
    · exact fin _
end
end

section
theorem b3Go_keys : ∀ (t : Nat) (ks : List (Option PySem.Expr)) (vs : List PySem.Expr), ∀ e ∈ b3Go t ks vs, ∃ i u, e.key = .int i u ∧ e.hash = hashInt i := by
  intro t ks vs
  induction t, ks, vs using b3Go.induct with
  | case1 t i _ _ ks x _ _ vs ih =>
    intro e he
    rw [b3Go] at he
    rcases List.mem_cons.mp he with rfl | he
    · exact ⟨i, t, rfl, rfl⟩
    · exact ih e he
  | case2 t ks vs h =>
    intro e he
    rw [b3Go] at he
    · cases he
    · exact h
theorem b3End_keys : ∀ (t : Nat) (ks : List (Option PySem.Expr)) (vs : List PySem.Expr), ∀ e ∈ b3End t ks vs, ∃ i u, e.key = .int i u ∧ e.hash = hashInt i := by
  intro t ks vs
  induction t, ks, vs using b3End.induct with
  | case1 t i _ _ ks x _ _ vs ih =>
    intro e he
    rw [b3End] at he
    rcases List.mem_cons.mp he with rfl | he
    · exact ⟨i, t, rfl, rfl⟩
    · exact ih e he
  | case2 t ks vs h =>
    intro e he
    rw [b3End] at he
    · cases he
    · exact h
theorem b3L_keys : ∀ e ∈ b3L, ∃ i u, e.key = .int i u ∧ e.hash = hashInt i := by
  intro e he
  unfold b3L at he
  split at he
  · rcases List.mem_append.mp he with he | he
    · exact b3Go_keys _ _ _ e he
    · exact b3End_keys _ _ _ e he
  · cases he
noncomputable def b3Get (k : Int) : Option Value := (b3L.find? fun e => Value.isInt k e.key).map (·.val)
theorem findBy_b3 (k : Int) : findBy Value.isInt b3L.toArray k = b3Get k := by
  unfold findBy b3Get
  rw [List.find?_toArray]
theorem map47 {w : World} {prog : Program} {h : Heap} (X : (KF w.params).In h) : h.MapOf (intKind prog w) 47 b3Get :=
  ⟨b3O, b3L.toArray, 650, X 47 _ rfl, ⟨rfl, rfl, rfl⟩, rfl, fun e he => by
    obtain ⟨i, u, e1, e2⟩ := b3L_keys e (by simpa using he)
    exact ⟨i, by rw [e1]; show Value.isInt i (.int i u) = true; simp [Value.isInt], e2⟩, findBy_b3⟩
noncomputable def greatOk (l j : Nat) : Bool := match b3Get (119808 + 52 * j + l) with
  | some (.str x _) => x.cps.toList == [97 + l]
  | _ => false
noncomputable def great10 : List Nat := [0, 1, 2, 4, 7, 8, 9, 10, 11, 12]
noncomputable def b3Chk : Bool := ((List.range 26).all fun l => great10.all fun j => greatOk l j) && (b3Get 34).isNone && (b3Get 92).isNone
set_option maxHeartbeats 0 in
theorem b3_chk : b3Chk = true := by kernel_rfl
theorem b3_great {l j : Nat} (hl : l < 26) (hj : j ∈ great10) : ∃ t, b3Get (119808 + 52 * j + l) = some (.str ⟨#[97 + l]⟩ t) := by
  have h := b3_chk
  unfold b3Chk at h
  rw [Bool.and_eq_true, Bool.and_eq_true] at h
  have h1 := List.all_eq_true.mp (List.all_eq_true.mp h.1.1 l (List.mem_range.mpr hl)) j hj
  unfold greatOk at h1
  split at h1
  · rename_i x t e
    refine ⟨t, ?_⟩
    rw [e]
    have h2 : x.cps.toList = [97 + l] := by simpa using h1
    have h3 : x = ⟨#[97 + l]⟩ := by cases x; simp only [Str.mk.injEq]; exact Array.toList_inj.mp h2
    rw [h3]
  · cases h1
theorem b3_34 : b3Get 34 = none := by
  have h := b3_chk
  unfold b3Chk at h
  rw [Bool.and_eq_true, Bool.and_eq_true] at h
  exact Option.isNone_iff_eq_none.mp h.1.2
theorem b3_92 : b3Get 92 = none := by
  have h := b3_chk
  unfold b3Chk at h
  rw [Bool.and_eq_true, Bool.and_eq_true] at h
  exact Option.isNone_iff_eq_none.mp h.2
/-- is it a sign of table B.1 -/
noncomputable def inB1 (k : Int) : Bool := b1Vals.any fun p => decide (p.1 = k)
theorem set36 {w : World} {prog : Program} {h : Heap} (X : (KF w.params).In h) : h.SetOf (intKind prog w) 36 inB1 27 := by
  refine ⟨_, _, _, _, X 36 _ rfl, ⟨rfl, rfl, rfl⟩, rfl, ?_, ?_, by decide, rfl, rfl⟩
  · intro e he
    simp only [List.mem_map] at he
    obtain ⟨p, _, rfl⟩ := he
    exact ⟨⟨p.1, by show Value.isInt p.1 (.int p.1 p.2) = true; simp [Value.isInt], rfl⟩, rfl⟩
  · intro k
    unfold inB1
    simp only [List.any_eq_true, decide_eq_true_eq, List.mem_map]
    constructor
    · rintro ⟨p, hp, rfl⟩
      exact ⟨_, ⟨p, hp, rfl⟩, by show Value.isInt p.1 (.int p.1 p.2) = true; simp [Value.isInt]⟩
    · rintro ⟨_, ⟨p, hp, rfl⟩, hk⟩
      refine ⟨p, hp, ?_⟩
      have : Value.isInt k (.int p.1 p.2) = true := hk
      simp [Value.isInt] at this
      exact this.symm ▸ rfl
end

section
section
open PySem.Calls
variable {prog : Program} {w : World} {A : Around} {E : Value → Shared → Prop} {s : Shared} {h₀ : Heap} {L : Addr} {m : Str → Option Value} {k : Int} {t : Tok}
theorem in36 {Q : Value → Shared → Prop} (F : Fr h₀ L s.heap m) (X : (KF w.params).In h₀) (h : Q (.bool (inB1 k)) { s with toks := s.toks + 1 }) : wpAny (model prog w) A (compareOp .In (.int k t) (.ref 36)) Q E s :=
  wpAny_inSet_of (intKind_is prog w k t) rfl (set36 (X.keeps F.keep)) h
theorem get47 {pl : Sem Bool} {Q : Value × List Value → Shared → Prop} (F : Fr h₀ L s.heap m) (X : (KF w.params).In h₀) (h : Q (.builtin "dict.get", [.ref 47]) s) :
    wpAny (model prog w) A (getMethod (.ref 47) "get" pl) Q E s :=
  have hm := map47 (prog := prog) (X.keeps F.keep)
  getMethod_builtin hm.typeIs PySem.F.plainAttrs_dict PySem.F.slot_dict_get PySem.F.type_dict_get hm.noDict h
theorem call47 {Q : Value → Shared → Prop} (F : Fr h₀ L s.heap m) (X : (KF w.params).In h₀) (h : Q ((b3Get k).getD .none) { s with toks := s.toks + 1 }) :
    wpAny (model prog w) A (call (.builtin "dict.get") [.ref 47, .int k t]) Q E s :=
  have hm := map47 (prog := prog) (X.keeps F.keep)
  call_meetsIn PySem.F.slot_dict_get hm.typeIs PySem.F.entry_dict_get (PySem.F.args_dict_get_2 _ _) (meets_dict_get (intKind prog w) 47 (intKind_is prog w k t) (by decide)) ⟨_, hm, h⟩
end

section
open PySem.Calls
variable {prog : Program} {w : World} {A : Around} {E : Value → Shared → Prop} {s : Shared} {h₀ : Heap} {L : Addr} {m : Str → Option Value} {k : Int} {t : Tok}
theorem call47v {v : Option Value} {Q : Value → Shared → Prop} (F : Fr h₀ L s.heap m) (X : (KF w.params).In h₀) (hv : b3Get k = v) (h : Q (v.getD .none) { s with toks := s.toks + 1 }) :
    wpAny (model prog w) A (call (.builtin "dict.get") [.ref 47, .int k t]) Q E s := call47 F X (hv ▸ h)
end

set_option maxHeartbeats 0 in
theorem c_inb1 (w : World) (c : Nat) (hc : c < 1114112) (t : Tok) (news : List (Addr × Obj)) : Ctr w 5 50 46 [.str ⟨#[c]⟩ t] news (RetVal (fun _ => .bool (inB1 c)) news) := by
  k_with "LeaveK" => (k_dflt (refine' leaveM ?hM ?hN ?G ?k1 ?k2 ?sub ?_; (case G => assumption); (case hM => assumption); (case hN => assumption); (case k1 => k_asm); (case k2 => k_asm); (case sub => lcg_sub)); intro kF kN kM; (try dsimp only))
  k_with "CompSrcT" => (k_here; k_dflt (first | (refine LCt.CompSrcT.range (n := 4) (by rfl) (by k_asm) (by k_asm) (by assumption) (by first | decide | rfl) (by first | rfl | decide) (by first | size_fits | exact Nat.le_of_ble_eq_true rfl) ?_; intro g') | (refine LCt.CompSrcT.range (n := 3) (by rfl) (by k_asm) (by k_asm) (by assumption) (by first | decide | rfl) (by first | rfl | decide) (by first | size_fits | exact Nat.le_of_ble_eq_true rfl) ?_; intro g') | (refine LCt.CompSrcT.range (n := 2) (by rfl) (by k_asm) (by k_asm) (by assumption) (by first | decide | rfl) (by first | rfl | decide) (by first | size_fits | exact Nat.le_of_ble_eq_true rfl) ?_; intro g') | (refine LCt.CompSrcT.range (n := 1) (by rfl) (by k_asm) (by k_asm) (by assumption) (by first | decide | rfl) (by first | rfl | decide) (by first | size_fits | exact Nat.le_of_ble_eq_true rfl) ?_; intro g') | (refine LCt.CompSrcT.range (n := 0) (by rfl) (by k_asm) (by k_asm) (by assumption) (by first | decide | rfl) (by first | rfl | decide) (by first | size_fits | exact Nat.le_of_ble_eq_true rfl) ?_; intro g')))
  k_with "CompRestT" => (refine stop_out ?_)
  k_with "TurnT" => (refine TurnT.mk (by first | exact fun _ h => h | lcg_sub) ?_ (by first | exact StrIs.mk | exact IntIs.mk (by first | rfl | decide | omega)); (try dsimp only); first | assumption | (with_unfolding_all exact decide_eq_true (by assumption)) | (simp_all; done))
  k_with "TurnF" => (refine TurnF.mk (by first | exact fun _ h => h | lcg_sub) ?_; (try dsimp only); first | assumption | (with_unfolding_all exact decide_eq_false (by assumption)) | (simp_all; done))
  k_with "eval ListComp" => (k_here; (with_reducible show wpAny _ _ (eval (Expr.ListComp _ _ _ _) _) _ _ _); first | (lct_look; lcg_calm; k_dflt (refine LCt.ListComp_T (F₀ := by k_asm) (by with_unfolding_all rfl) (by decide) (by rfl) (by decide) (by rfl) ?_); k_dflt lct_toSrc) | (lcf_look; lcg_calm; k_dflt (refine LCg.ListComp_U (F₀ := by k_asm) (by with_unfolding_all rfl) (by decide) (by rfl) (by decide) (by rfl) ?_); k_dflt lcg_toSrc) | (lcg_look; lcg_calm; k_dflt (refine LCg.ListComp_U (F₀ := by k_asm) (by rfl) (by decide) (by rfl) (by decide) (by rfl) ?_); k_dflt lcg_toSrc))
  k_with "binaryOp Mult ref int" => (k_here; (with_reducible show wpAny _ _ (binaryOp Operator.Mult (Value.ref _) (Value.int _ _)) _ _ _); k_dflt (refine' KMa.mul ?F ?N ?l ?lo ?hi ?z ?e ?_; (case F => k_asm); (case N => k_asm); (case l => is_list); (case lo => first | omega | decide); (case hi => first | omega | decide); (case z => (simp only [List.length_cons, List.length_nil]; decide)); (case e => (simp only [Int.sub_zero, Int.sub_self, Int.reduceSub, Int.reduceToNat, Int.toNat_zero, List.replicate_succ, List.replicate_zero, List.flatten_cons, List.flatten_nil, List.cons_append, List.nil_append, List.append_nil]; first | done | exact rfl)); k_whole); intro D' h' F' N' l1; (try k_lt l1); (try k_sweep))
  k_with "CompRest" => (refine stop_out ?_)
  k_with "CompEnd" => k_dflt (first | (refine LCg.CompEnd.intro (by assumption) (by assumption) _ (fun _ h => h) (by assumption) (by lcg_src) ?_) | (refine LCg.CompEnd.intro (by assumption) (by assumption) _ (fun _ h => List.Mem.tail _ h) (by assumption) (by lcg_src) ?_))
  k_with "TurnV" => (refine TurnV.mk (fun _ h => h) (by first | exact StrIs.mk | exact IntIs.mk (by first | rfl | decide | omega) | rfl))
  k_with "FinE" => ((unfold LCg.FinE); intro D' h' tk' F' N' o1'; (replace o1' := off1H o1'); (try simp only [List.nil_append, List.cons_append] at N'); (try simp only [List.nil_append, List.cons_append] at o1'); (try dsimp only))
  k_with "FinA" => ((unfold LCg.FinA); intro D' h' tk' F' N' o1'; (replace o1' := off1H o1'); (try simp only [List.nil_append, List.cons_append] at N'); (try simp only [List.nil_append, List.cons_append] at o1'); (try dsimp only))
  k_with "subscriptTail Name Name ref int" => (k_here; (with_reducible show wpAny _ _ (subscriptTail _ _ (Value.ref _) (Value.int _ _)) _ _ _); k_dflt (refine' item_led ?N ?m ?a ?b ?x ?_; (case N => k_asm); (case m => k_mem); (case a => decide); (case b => decide); (case x => exact rfl)))
  k_with "subscriptTail Name Constant ref int" => (k_here; (with_reducible show wpAny _ _ (subscriptTail _ _ (Value.ref _) (Value.int _ _)) _ _ _); k_dflt (refine' item_led ?N ?m ?a ?b ?x ?_; (case N => k_asm); (case m => k_mem); (case a => decide); (case b => decide); (case x => exact rfl)))
  k_with "subscriptTail Name BinOp ref int" => (k_here; (with_reducible show wpAny _ _ (subscriptTail _ _ (Value.ref _) (Value.int _ _)) _ _ _); k_dflt (refine' item_led ?N ?m ?a ?b ?x ?_; (case N => k_asm); (case m => k_mem); (case a => decide); (case b => decide); (case x => exact rfl)))
  k_with "eval Name" => (k_here; (with_reducible show wpAny _ _ (eval (Expr.Name _ _) (compEnvC _ _ _ _)) _ _ _); k_dflt (first | (refine' lcf_cell ?N ?c ?m ?d ?_ ?a ?b; (case b => exact rfl); (case a => exact rfl); (case N => k_asm); (case c => exact rfl); (case m => k_mem); (case d => k_asm)) | (refine' LCgL.ld_own ?N ?m ?h ?x ?_ ?a ?b; (case b => exact rfl); (case a => exact rfl); (case N => k_asm); (case x => with_reducible assumption); (case m => k_mem); (case h => with_reducible assumption))))
  k_with "compareOp In int ref" => (k_here; (with_reducible show wpAny _ _ (compareOp CmpOp.In (Value.int _ _) (Value.ref 36)) _ _ _); k_dflt (refine' in36 ?F ?X ?_; (case F => k_asm); (case X => k_asm)))
  k_with "getMethod ref" => (k_here; (with_reducible show wpAny _ _ (getMethod (Value.ref 47) _ _) _ _ _); k_dflt (refine' get47 ?F ?X ?_; (case F => k_asm); (case X => k_asm)))
  k_with "call builtin:dict.get" => (k_here; (with_reducible show wpAny _ _ (call (Value.builtin "dict.get") [Value.ref 47, Value.int _ _]) _ _ _); k_dflt (refine' call47 ?F ?X ?_; (case F => k_asm); (case X => k_asm)))
  k_with "call builtin:dict.get" => (k_here; (with_reducible show wpAny _ _ (call (Value.builtin "dict.get") [Value.ref 47, Value.int _ _]) _ _ _); k_dflt (refine' call47v ?F ?X ?v ?_; (case F => k_asm); (case X => k_asm); (case v => assumption)); (try dsimp only [Option.getD_some, Option.getD_none, Option.getD]))
  delta Ctr PG lo; k_fill
  intro mean mg mb dp un gd cn cs a ccd cl outer A₀ base h₀ L m s Q E B F X N T hk hd hu hret
  have NA := (news_nil (h₀ := h₀) (L := L) (h := s.heap))
  refine wpAny_call ?_
  k_dflt (refine' enterM ?k1 ?k2 ?k3 ?kM ?k4 ?k5 ?kA ?kF ?kK ?k6 ?k7 ?k8 ?k9 ?kB ?_ ?c2 ?c3 ?c4 ?c5; (case kA => exact rfl); (case kF => exact rfl); (case kK => assumption); (case k1 => k_asm); (case k2 => k_asm); (case k3 => k_asm); (case kM => exact N); (case k4 => exact NA); (case k5 => k_asm); (case k6 => k_is); (case k7 => k_is); (case k8 => ktr_room); (case k9 => first | exact BindsTo.of_eq rfl | exact binds_K (by k_in) rfl (by k_is) rfl rfl rfl); (case c5 => decide); (case kB => exact locs rfl); (case c2 => exact rfl); (case c3 => exact rfl); (case c4 => exact rfl); k_whole; intro g' L' h' G' FG' F' N' B' X' T' l1; (try k_lt l1); (try dsimp only); (try k_lift B'); (try k_fold))
  k_steps
  exact hret 0 _ _ (by k_asm) (by k_asm)
  k_with_none
set_option maxHeartbeats 0 in
theorem c_map_some (w : World) (c : Nat) (hc : c < 1114112) (t : Tok) (y : Str) (ty : Tok) (hv : b3Get (c : Int) = some (.str y ty)) (news : List (Addr × Obj)) : Ctr w 5 50 92 [.str ⟨#[c]⟩ t] news (RetVal (fun _ => .str y ty) news) := by
  k_with "LeaveK" => (k_dflt (refine' leaveM ?hM ?hN ?G ?k1 ?k2 ?sub ?_; (case G => assumption); (case hM => assumption); (case hN => assumption); (case k1 => k_asm); (case k2 => k_asm); (case sub => lcg_sub)); intro kF kN kM; (try dsimp only))
  k_with "CompSrcT" => (k_here; k_dflt (first | (refine LCt.CompSrcT.range (n := 4) (by rfl) (by k_asm) (by k_asm) (by assumption) (by first | decide | rfl) (by first | rfl | decide) (by first | size_fits | exact Nat.le_of_ble_eq_true rfl) ?_; intro g') | (refine LCt.CompSrcT.range (n := 3) (by rfl) (by k_asm) (by k_asm) (by assumption) (by first | decide | rfl) (by first | rfl | decide) (by first | size_fits | exact Nat.le_of_ble_eq_true rfl) ?_; intro g') | (refine LCt.CompSrcT.range (n := 2) (by rfl) (by k_asm) (by k_asm) (by assumption) (by first | decide | rfl) (by first | rfl | decide) (by first | size_fits | exact Nat.le_of_ble_eq_true rfl) ?_; intro g') | (refine LCt.CompSrcT.range (n := 1) (by rfl) (by k_asm) (by k_asm) (by assumption) (by first | decide | rfl) (by first | rfl | decide) (by first | size_fits | exact Nat.le_of_ble_eq_true rfl) ?_; intro g') | (refine LCt.CompSrcT.range (n := 0) (by rfl) (by k_asm) (by k_asm) (by assumption) (by first | decide | rfl) (by first | rfl | decide) (by first | size_fits | exact Nat.le_of_ble_eq_true rfl) ?_; intro g')))
  k_with "CompRestT" => (refine stop_out ?_)
  k_with "TurnT" => (refine TurnT.mk (by first | exact fun _ h => h | lcg_sub) ?_ (by first | exact StrIs.mk | exact IntIs.mk (by first | rfl | decide | omega)); (try dsimp only); first | assumption | (with_unfolding_all exact decide_eq_true (by assumption)) | (simp_all; done))
  k_with "TurnF" => (refine TurnF.mk (by first | exact fun _ h => h | lcg_sub) ?_; (try dsimp only); first | assumption | (with_unfolding_all exact decide_eq_false (by assumption)) | (simp_all; done))
  k_with "eval ListComp" => (k_here; (with_reducible show wpAny _ _ (eval (Expr.ListComp _ _ _ _) _) _ _ _); first | (lct_look; lcg_calm; k_dflt (refine LCt.ListComp_T (F₀ := by k_asm) (by with_unfolding_all rfl) (by decide) (by rfl) (by decide) (by rfl) ?_); k_dflt lct_toSrc) | (lcf_look; lcg_calm; k_dflt (refine LCg.ListComp_U (F₀ := by k_asm) (by with_unfolding_all rfl) (by decide) (by rfl) (by decide) (by rfl) ?_); k_dflt lcg_toSrc) | (lcg_look; lcg_calm; k_dflt (refine LCg.ListComp_U (F₀ := by k_asm) (by rfl) (by decide) (by rfl) (by decide) (by rfl) ?_); k_dflt lcg_toSrc))
  k_with "binaryOp Mult ref int" => (k_here; (with_reducible show wpAny _ _ (binaryOp Operator.Mult (Value.ref _) (Value.int _ _)) _ _ _); k_dflt (refine' KMa.mul ?F ?N ?l ?lo ?hi ?z ?e ?_; (case F => k_asm); (case N => k_asm); (case l => is_list); (case lo => first | omega | decide); (case hi => first | omega | decide); (case z => (simp only [List.length_cons, List.length_nil]; decide)); (case e => (simp only [Int.sub_zero, Int.sub_self, Int.reduceSub, Int.reduceToNat, Int.toNat_zero, List.replicate_succ, List.replicate_zero, List.flatten_cons, List.flatten_nil, List.cons_append, List.nil_append, List.append_nil]; first | done | exact rfl)); k_whole); intro D' h' F' N' l1; (try k_lt l1); (try k_sweep))
  k_with "CompRest" => (refine stop_out ?_)
  k_with "CompEnd" => k_dflt (first | (refine LCg.CompEnd.intro (by assumption) (by assumption) _ (fun _ h => h) (by assumption) (by lcg_src) ?_) | (refine LCg.CompEnd.intro (by assumption) (by assumption) _ (fun _ h => List.Mem.tail _ h) (by assumption) (by lcg_src) ?_))
  k_with "TurnV" => (refine TurnV.mk (fun _ h => h) (by first | exact StrIs.mk | exact IntIs.mk (by first | rfl | decide | omega) | rfl))
  k_with "FinE" => ((unfold LCg.FinE); intro D' h' tk' F' N' o1'; (replace o1' := off1H o1'); (try simp only [List.nil_append, List.cons_append] at N'); (try simp only [List.nil_append, List.cons_append] at o1'); (try dsimp only))
  k_with "FinA" => ((unfold LCg.FinA); intro D' h' tk' F' N' o1'; (replace o1' := off1H o1'); (try simp only [List.nil_append, List.cons_append] at N'); (try simp only [List.nil_append, List.cons_append] at o1'); (try dsimp only))
  k_with "subscriptTail Name Name ref int" => (k_here; (with_reducible show wpAny _ _ (subscriptTail _ _ (Value.ref _) (Value.int _ _)) _ _ _); k_dflt (refine' item_led ?N ?m ?a ?b ?x ?_; (case N => k_asm); (case m => k_mem); (case a => decide); (case b => decide); (case x => exact rfl)))
  k_with "subscriptTail Name Constant ref int" => (k_here; (with_reducible show wpAny _ _ (subscriptTail _ _ (Value.ref _) (Value.int _ _)) _ _ _); k_dflt (refine' item_led ?N ?m ?a ?b ?x ?_; (case N => k_asm); (case m => k_mem); (case a => decide); (case b => decide); (case x => exact rfl)))
  k_with "subscriptTail Name BinOp ref int" => (k_here; (with_reducible show wpAny _ _ (subscriptTail _ _ (Value.ref _) (Value.int _ _)) _ _ _); k_dflt (refine' item_led ?N ?m ?a ?b ?x ?_; (case N => k_asm); (case m => k_mem); (case a => decide); (case b => decide); (case x => exact rfl)))
  k_with "eval Name" => (k_here; (with_reducible show wpAny _ _ (eval (Expr.Name _ _) (compEnvC _ _ _ _)) _ _ _); k_dflt (first | (refine' lcf_cell ?N ?c ?m ?d ?_ ?a ?b; (case b => exact rfl); (case a => exact rfl); (case N => k_asm); (case c => exact rfl); (case m => k_mem); (case d => k_asm)) | (refine' LCgL.ld_own ?N ?m ?h ?x ?_ ?a ?b; (case b => exact rfl); (case a => exact rfl); (case N => k_asm); (case x => with_reducible assumption); (case m => k_mem); (case h => with_reducible assumption))))
  k_with "compareOp In int ref" => (k_here; (with_reducible show wpAny _ _ (compareOp CmpOp.In (Value.int _ _) (Value.ref 36)) _ _ _); k_dflt (refine' in36 ?F ?X ?_; (case F => k_asm); (case X => k_asm)))
  k_with "getMethod ref" => (k_here; (with_reducible show wpAny _ _ (getMethod (Value.ref 47) _ _) _ _ _); k_dflt (refine' get47 ?F ?X ?_; (case F => k_asm); (case X => k_asm)))
  k_with "call builtin:dict.get" => (k_here; (with_reducible show wpAny _ _ (call (Value.builtin "dict.get") [Value.ref 47, Value.int _ _]) _ _ _); k_dflt (refine' call47 ?F ?X ?_; (case F => k_asm); (case X => k_asm)))
  k_with "call builtin:dict.get" => (k_here; (with_reducible show wpAny _ _ (call (Value.builtin "dict.get") [Value.ref 47, Value.int _ _]) _ _ _); k_dflt (refine' call47v ?F ?X ?v ?_; (case F => k_asm); (case X => k_asm); (case v => assumption)); (try dsimp only [Option.getD_some, Option.getD_none, Option.getD]))
  delta Ctr PG lo; k_fill
  intro mean mg mb dp un gd cn cs a ccd cl outer A₀ base h₀ L m s Q E B F X N T hk hd hu hret
  have NA := (news_nil (h₀ := h₀) (L := L) (h := s.heap))
  refine wpAny_call ?_
  k_dflt (refine' enterM ?k1 ?k2 ?k3 ?kM ?k4 ?k5 ?kA ?kF ?kK ?k6 ?k7 ?k8 ?k9 ?kB ?_ ?c2 ?c3 ?c4 ?c5; (case kA => exact rfl); (case kF => exact rfl); (case kK => assumption); (case k1 => k_asm); (case k2 => k_asm); (case k3 => k_asm); (case kM => exact N); (case k4 => exact NA); (case k5 => k_asm); (case k6 => k_is); (case k7 => k_is); (case k8 => ktr_room); (case k9 => first | exact BindsTo.of_eq rfl | exact binds_K (by k_in) rfl (by k_is) rfl rfl rfl); (case c5 => decide); (case kB => exact locs rfl); (case c2 => exact rfl); (case c3 => exact rfl); (case c4 => exact rfl); k_whole; intro g' L' h' G' FG' F' N' B' X' T' l1; (try k_lt l1); (try dsimp only); (try k_lift B'); (try k_fold))
  k_steps
  exact hret 0 _ _ (by k_asm) (by k_asm)
  k_with_none

set_option maxHeartbeats 0 in
theorem c_map_none (w : World) (c : Nat) (hc : c < 1114112) (t : Tok) (hv : b3Get (c : Int) = none) (hfit : Builtin.Str.tooLong (Txt.lower ⟨#[c]⟩).length = false) (news : List (Addr × Obj)) : Ctr w 5 50 92 [.str ⟨#[c]⟩ t] news (RetVal (fun t => .str (Txt.lower ⟨#[c]⟩) t) news) := by
  k_with "LeaveK" => (k_dflt (refine' leaveM ?hM ?hN ?G ?k1 ?k2 ?sub ?_; (case G => assumption); (case hM => assumption); (case hN => assumption); (case k1 => k_asm); (case k2 => k_asm); (case sub => lcg_sub)); intro kF kN kM; (try dsimp only))
  k_with "CompSrcT" => (k_here; k_dflt (first | (refine LCt.CompSrcT.range (n := 4) (by rfl) (by k_asm) (by k_asm) (by assumption) (by first | decide | rfl) (by first | rfl | decide) (by first | size_fits | exact Nat.le_of_ble_eq_true rfl) ?_; intro g') | (refine LCt.CompSrcT.range (n := 3) (by rfl) (by k_asm) (by k_asm) (by assumption) (by first | decide | rfl) (by first | rfl | decide) (by first | size_fits | exact Nat.le_of_ble_eq_true rfl) ?_; intro g') | (refine LCt.CompSrcT.range (n := 2) (by rfl) (by k_asm) (by k_asm) (by assumption) (by first | decide | rfl) (by first | rfl | decide) (by first | size_fits | exact Nat.le_of_ble_eq_true rfl) ?_; intro g') | (refine LCt.CompSrcT.range (n := 1) (by rfl) (by k_asm) (by k_asm) (by assumption) (by first | decide | rfl) (by first | rfl | decide) (by first | size_fits | exact Nat.le_of_ble_eq_true rfl) ?_; intro g') | (refine LCt.CompSrcT.range (n := 0) (by rfl) (by k_asm) (by k_asm) (by assumption) (by first | decide | rfl) (by first | rfl | decide) (by first | size_fits | exact Nat.le_of_ble_eq_true rfl) ?_; intro g')))
  k_with "CompRestT" => (refine stop_out ?_)
  k_with "TurnT" => (refine TurnT.mk (by first | exact fun _ h => h | lcg_sub) ?_ (by first | exact StrIs.mk | exact IntIs.mk (by first | rfl | decide | omega)); (try dsimp only); first | assumption | (with_unfolding_all exact decide_eq_true (by assumption)) | (simp_all; done))
  k_with "TurnF" => (refine TurnF.mk (by first | exact fun _ h => h | lcg_sub) ?_; (try dsimp only); first | assumption | (with_unfolding_all exact decide_eq_false (by assumption)) | (simp_all; done))
  k_with "eval ListComp" => (k_here; (with_reducible show wpAny _ _ (eval (Expr.ListComp _ _ _ _) _) _ _ _); first | (lct_look; lcg_calm; k_dflt (refine LCt.ListComp_T (F₀ := by k_asm) (by with_unfolding_all rfl) (by decide) (by rfl) (by decide) (by rfl) ?_); k_dflt lct_toSrc) | (lcf_look; lcg_calm; k_dflt (refine LCg.ListComp_U (F₀ := by k_asm) (by with_unfolding_all rfl) (by decide) (by rfl) (by decide) (by rfl) ?_); k_dflt lcg_toSrc) | (lcg_look; lcg_calm; k_dflt (refine LCg.ListComp_U (F₀ := by k_asm) (by rfl) (by decide) (by rfl) (by decide) (by rfl) ?_); k_dflt lcg_toSrc))
  k_with "binaryOp Mult ref int" => (k_here; (with_reducible show wpAny _ _ (binaryOp Operator.Mult (Value.ref _) (Value.int _ _)) _ _ _); k_dflt (refine' KMa.mul ?F ?N ?l ?lo ?hi ?z ?e ?_; (case F => k_asm); (case N => k_asm); (case l => is_list); (case lo => first | omega | decide); (case hi => first | omega | decide); (case z => (simp only [List.length_cons, List.length_nil]; decide)); (case e => (simp only [Int.sub_zero, Int.sub_self, Int.reduceSub, Int.reduceToNat, Int.toNat_zero, List.replicate_succ, List.replicate_zero, List.flatten_cons, List.flatten_nil, List.cons_append, List.nil_append, List.append_nil]; first | done | exact rfl)); k_whole); intro D' h' F' N' l1; (try k_lt l1); (try k_sweep))
  k_with "CompRest" => (refine stop_out ?_)
  k_with "CompEnd" => k_dflt (first | (refine LCg.CompEnd.intro (by assumption) (by assumption) _ (fun _ h => h) (by assumption) (by lcg_src) ?_) | (refine LCg.CompEnd.intro (by assumption) (by assumption) _ (fun _ h => List.Mem.tail _ h) (by assumption) (by lcg_src) ?_))
  k_with "TurnV" => (refine TurnV.mk (fun _ h => h) (by first | exact StrIs.mk | exact IntIs.mk (by first | rfl | decide | omega) | rfl))
  k_with "FinE" => ((unfold LCg.FinE); intro D' h' tk' F' N' o1'; (replace o1' := off1H o1'); (try simp only [List.nil_append, List.cons_append] at N'); (try simp only [List.nil_append, List.cons_append] at o1'); (try dsimp only))
  k_with "FinA" => ((unfold LCg.FinA); intro D' h' tk' F' N' o1'; (replace o1' := off1H o1'); (try simp only [List.nil_append, List.cons_append] at N'); (try simp only [List.nil_append, List.cons_append] at o1'); (try dsimp only))
  k_with "subscriptTail Name Name ref int" => (k_here; (with_reducible show wpAny _ _ (subscriptTail _ _ (Value.ref _) (Value.int _ _)) _ _ _); k_dflt (refine' item_led ?N ?m ?a ?b ?x ?_; (case N => k_asm); (case m => k_mem); (case a => decide); (case b => decide); (case x => exact rfl)))
  k_with "subscriptTail Name Constant ref int" => (k_here; (with_reducible show wpAny _ _ (subscriptTail _ _ (Value.ref _) (Value.int _ _)) _ _ _); k_dflt (refine' item_led ?N ?m ?a ?b ?x ?_; (case N => k_asm); (case m => k_mem); (case a => decide); (case b => decide); (case x => exact rfl)))
  k_with "subscriptTail Name BinOp ref int" => (k_here; (with_reducible show wpAny _ _ (subscriptTail _ _ (Value.ref _) (Value.int _ _)) _ _ _); k_dflt (refine' item_led ?N ?m ?a ?b ?x ?_; (case N => k_asm); (case m => k_mem); (case a => decide); (case b => decide); (case x => exact rfl)))
  k_with "eval Name" => (k_here; (with_reducible show wpAny _ _ (eval (Expr.Name _ _) (compEnvC _ _ _ _)) _ _ _); k_dflt (first | (refine' lcf_cell ?N ?c ?m ?d ?_ ?a ?b; (case b => exact rfl); (case a => exact rfl); (case N => k_asm); (case c => exact rfl); (case m => k_mem); (case d => k_asm)) | (refine' LCgL.ld_own ?N ?m ?h ?x ?_ ?a ?b; (case b => exact rfl); (case a => exact rfl); (case N => k_asm); (case x => with_reducible assumption); (case m => k_mem); (case h => with_reducible assumption))))
  k_with "compareOp In int ref" => (k_here; (with_reducible show wpAny _ _ (compareOp CmpOp.In (Value.int _ _) (Value.ref 36)) _ _ _); k_dflt (refine' in36 ?F ?X ?_; (case F => k_asm); (case X => k_asm)))
  k_with "getMethod ref" => (k_here; (with_reducible show wpAny _ _ (getMethod (Value.ref 47) _ _) _ _ _); k_dflt (refine' get47 ?F ?X ?_; (case F => k_asm); (case X => k_asm)))
  k_with "call builtin:dict.get" => (k_here; (with_reducible show wpAny _ _ (call (Value.builtin "dict.get") [Value.ref 47, Value.int _ _]) _ _ _); k_dflt (refine' call47 ?F ?X ?_; (case F => k_asm); (case X => k_asm)))
  k_with "call builtin:dict.get" => (k_here; (with_reducible show wpAny _ _ (call (Value.builtin "dict.get") [Value.ref 47, Value.int _ _]) _ _ _); k_dflt (refine' call47v ?F ?X ?v ?_; (case F => k_asm); (case X => k_asm); (case v => assumption)); (try dsimp only [Option.getD_some, Option.getD_none, Option.getD]))
  k_with "call builtin:str.lower" => ((try dsimp only); (with_reducible show wpAny _ _ (call (Value.builtin "str.lower") [Value.str _ _]) _ _ _); refine SC.lower (by assumption) ?_; (try dsimp only))
  delta Ctr PG lo; k_fill
  intro mean mg mb dp un gd cn cs a ccd cl outer A₀ base h₀ L m s Q E B F X N T hk hd hu hret
  have NA := (news_nil (h₀ := h₀) (L := L) (h := s.heap))
  refine wpAny_call ?_
  k_dflt (refine' enterM ?k1 ?k2 ?k3 ?kM ?k4 ?k5 ?kA ?kF ?kK ?k6 ?k7 ?k8 ?k9 ?kB ?_ ?c2 ?c3 ?c4 ?c5; (case kA => exact rfl); (case kF => exact rfl); (case kK => assumption); (case k1 => k_asm); (case k2 => k_asm); (case k3 => k_asm); (case kM => exact N); (case k4 => exact NA); (case k5 => k_asm); (case k6 => k_is); (case k7 => k_is); (case k8 => ktr_room); (case k9 => first | exact BindsTo.of_eq rfl | exact binds_K (by k_in) rfl (by k_is) rfl rfl rfl); (case c5 => decide); (case kB => exact locs rfl); (case c2 => exact rfl); (case c3 => exact rfl); (case c4 => exact rfl); k_whole; intro g' L' h' G' FG' F' N' B' X' T' l1; (try k_lt l1); (try dsimp only); (try k_lift B'); (try k_fold))
  k_steps
  exact hret _ _ _ (by k_asm) (by k_asm)
  k_with_none
end

section
theorem chr_nat {prog : Program} {w : World} {A : Around} {E : Value → Shared → Prop} {s : Shared} {i : Int} {c : Nat} {t : Tok} {Q : Value → Shared → Prop} (e : i = (c : Int)) (hc : c < 1114112) (h : ∀ t' k, Q (.str ⟨#[c]⟩ t') { s with toks := k }) :
    wpAny (model prog w) A (call (.builtin "chr") [.int i t]) Q E s := by
  subst e
  refine chr_of_range (by omega) (by omega) ?_
  rw [Int.toNat_natCast]
  exact h _ _
theorem pick_great (x : Int) : ∃ j : Nat, j ∈ great10 ∧ ([0, 1, 2, 4, 7, 8, 9, 10, 11, 12] : List Int).getD (x.fmod 10).toNat 0 = (j : Int) := by
  have h0 : 0 ≤ x.fmod 10 := fmod_lo _ (by decide)
  have h1 : x.fmod 10 < 10 := fmod_hi _ (by decide)
  have : (x.fmod 10).toNat < 10 := by omega
  generalize (x.fmod 10).toNat = n at this
  have key : ∀ n < 10, ∃ j : Nat, j ∈ great10 ∧ ([0, 1, 2, 4, 7, 8, 9, 10, 11, 12] : List Int).getD n 0 = (j : Int) := by
    intro n hn
    match n, hn with
    | 0, _ => exact ⟨0, by decide, rfl⟩
    | 1, _ => exact ⟨1, by decide, rfl⟩
    | 2, _ => exact ⟨2, by decide, rfl⟩
    | 3, _ => exact ⟨4, by decide, rfl⟩
    | 4, _ => exact ⟨7, by decide, rfl⟩
    | 5, _ => exact ⟨8, by decide, rfl⟩
    | 6, _ => exact ⟨9, by decide, rfl⟩
    | 7, _ => exact ⟨10, by decide, rfl⟩
    | 8, _ => exact ⟨11, by decide, rfl⟩
    | 9, _ => exact ⟨12, by decide, rfl⟩
  exact key n this
theorem pick_hidden (x : Int) : ∃ q : Nat, inB1 (q : Int) = true ∧ q < 1114112 ∧ ((173 :: 847 :: 6150 :: 6155 :: 6156 :: 6157 :: 8203 :: 8204 :: 8205 :: 8288 :: 65279 :: rangeInts 65024 1 ((65040 : Int) - 65024).toNat : List Int)).getD (x.fmod 27).toNat 0 = (q : Int) := by
  have h0 : 0 ≤ x.fmod 27 := fmod_lo _ (by decide)
  have h1 : x.fmod 27 < 27 := fmod_hi _ (by decide)
  have : (x.fmod 27).toNat < 27 := by omega
  generalize (x.fmod 27).toNat = n at this
  have key : ∀ n < 27, inB1 ((173 :: 847 :: 6150 :: 6155 :: 6156 :: 6157 :: 8203 :: 8204 :: 8205 :: 8288 :: 65279 :: rangeInts 65024 1 ((65040 : Int) - 65024).toNat : List Int).getD n 0) = true ∧ 0 ≤ (173 :: 847 :: 6150 :: 6155 :: 6156 :: 6157 :: 8203 :: 8204 :: 8205 :: 8288 :: 65279 :: rangeInts 65024 1 ((65040 : Int) - 65024).toNat : List Int).getD n 0 ∧ (173 :: 847 :: 6150 :: 6155 :: 6156 :: 6157 :: 8203 :: 8204 :: 8205 :: 8288 :: 65279 :: rangeInts 65024 1 ((65040 : Int) - 65024).toNat : List Int).getD n 0 < 1114112 := by decide +kernel
  obtain ⟨k1, k2, k3⟩ := key n this
  refine ⟨_, ?_, ?_, (Int.toNat_of_nonneg k2).symm⟩
  · rw [Int.toNat_of_nonneg k2]; exact k1
  · omega
theorem great_lt {j : Nat} (hj : j ∈ great10) : j ≤ 12 := by
  simp only [great10, List.mem_cons, List.not_mem_nil, or_false] at hj
  omega
theorem b1_small : b1Vals.all (fun p => decide (p.1 < 65536)) = true := by decide +kernel
theorem inB1_big {c : Nat} (h : 65536 ≤ c) : inB1 (c : Int) = false := by
  unfold inB1
  rw [List.any_eq_false]
  intro p hp e
  have h1 := of_decide_eq_true (List.all_eq_true.mp b1_small p hp)
  have h2 := of_decide_eq_true e
  omega
theorem c_inb1_v (w : World) (c : Nat) (hc : c < 1114112) (t : Tok) (b : Bool) (hb : inB1 (c : Int) = b) (news : List (Addr × Obj)) : Ctr w 5 50 46 [.str ⟨#[c]⟩ t] news (RetVal (fun _ => .bool b) news) := by
  subst hb; exact c_inb1 w c hc t news
theorem c_map_same (w : World) (c : Nat) (hc : c < 1114112) (t : Tok) (hv : b3Get (c : Int) = none) (hl : Txt.lower ⟨#[c]⟩ = ⟨#[c]⟩) (news : List (Addr × Obj)) : Ctr w 5 50 92 [.str ⟨#[c]⟩ t] news (RetVal (fun t => .str ⟨#[c]⟩ t) news) := by
  have := c_map_none w c hc t hv (by rw [hl]; exact (by decide : Builtin.Str.tooLong 1 = false)) news
  rw [hl] at this; exact this




theorem news_none {h₀ h : Heap} {L : Addr} {l : List (Addr × Obj)} (_ : News h₀ L h l) : News h₀ L h [] := news_nil
set_option maxHeartbeats 0 in
theorem c_piece (w : World) (l : Nat) (hl : l < 26) (tl : Tok) (beh : Str) (tb : Tok) (hb : beh = Str.ofString "" ∨ beh = Str.ofString "\\\"" ∨ beh = Str.ofString "\\\\") (wh : Int) (g0 : 0 ≤ wh) (g1 : wh < 1000000) (tw : Tok) (news : List (Addr × Obj)) : Ctr w 20 150 146 [.int (l : Int) tl, .str beh tb, .int wh tw] news (RetVal (fun t => .str (⟨#[97 + l]⟩ ++ beh) t) news) := by
  k_with "LeaveK" => (k_dflt (refine' leaveM ?hM ?hN ?G ?k1 ?k2 ?sub ?_; (case G => assumption); (case hM => assumption); (case hN => assumption); (case k1 => k_asm); (case k2 => k_asm); (case sub => lcg_sub)); intro kF kN kM; (try dsimp only))
  k_with "CompSrcT" => (k_here; k_dflt (first | (refine LCt.CompSrcT.range (n := 4) (by rfl) (by k_asm) (by k_asm) (by assumption) (by first | decide | rfl) (by first | rfl | decide) (by first | size_fits | exact Nat.le_of_ble_eq_true rfl) ?_; intro g') | (refine LCt.CompSrcT.range (n := 3) (by rfl) (by k_asm) (by k_asm) (by assumption) (by first | decide | rfl) (by first | rfl | decide) (by first | size_fits | exact Nat.le_of_ble_eq_true rfl) ?_; intro g') | (refine LCt.CompSrcT.range (n := 2) (by rfl) (by k_asm) (by k_asm) (by assumption) (by first | decide | rfl) (by first | rfl | decide) (by first | size_fits | exact Nat.le_of_ble_eq_true rfl) ?_; intro g') | (refine LCt.CompSrcT.range (n := 1) (by rfl) (by k_asm) (by k_asm) (by assumption) (by first | decide | rfl) (by first | rfl | decide) (by first | size_fits | exact Nat.le_of_ble_eq_true rfl) ?_; intro g') | (refine LCt.CompSrcT.range (n := 0) (by rfl) (by k_asm) (by k_asm) (by assumption) (by first | decide | rfl) (by first | rfl | decide) (by first | size_fits | exact Nat.le_of_ble_eq_true rfl) ?_; intro g')))
  k_with "CompRestT" => (refine stop_out ?_)
  k_with "TurnT" => (refine TurnT.mk (by first | exact fun _ h => h | lcg_sub) ?_ (by first | exact StrIs.mk | exact IntIs.mk (by first | rfl | decide | omega)); (try dsimp only); first | assumption | (with_unfolding_all exact decide_eq_true (by assumption)) | (simp_all; done))
  k_with "TurnF" => (refine TurnF.mk (by first | exact fun _ h => h | lcg_sub) ?_; (try dsimp only); first | assumption | (with_unfolding_all exact decide_eq_false (by assumption)) | (simp_all; done))
  k_with "eval ListComp" => (k_here; (with_reducible show wpAny _ _ (eval (Expr.ListComp _ _ _ _) _) _ _ _); first | (lct_look; lcg_calm; k_dflt (refine LCt.ListComp_T (F₀ := by k_asm) (by with_unfolding_all rfl) (by decide) (by rfl) (by decide) (by rfl) ?_); k_dflt lct_toSrc) | (lcf_look; lcg_calm; k_dflt (refine LCg.ListComp_U (F₀ := by k_asm) (by with_unfolding_all rfl) (by decide) (by rfl) (by decide) (by rfl) ?_); k_dflt lcg_toSrc) | (lcg_look; lcg_calm; k_dflt (refine LCg.ListComp_U (F₀ := by k_asm) (by rfl) (by decide) (by rfl) (by decide) (by rfl) ?_); k_dflt lcg_toSrc))
  k_with "binaryOp Mult ref int" => (k_here; (with_reducible show wpAny _ _ (binaryOp Operator.Mult (Value.ref _) (Value.int _ _)) _ _ _); k_dflt (refine' KMa.mul ?F ?N ?l ?lo ?hi ?z ?e ?_; (case F => k_asm); (case N => k_asm); (case l => is_list); (case lo => first | omega | decide); (case hi => first | omega | decide); (case z => (simp only [List.length_cons, List.length_nil]; decide)); (case e => (simp only [Int.sub_zero, Int.sub_self, Int.reduceSub, Int.reduceToNat, Int.toNat_zero, List.replicate_succ, List.replicate_zero, List.flatten_cons, List.flatten_nil, List.cons_append, List.nil_append, List.append_nil]; first | done | exact rfl)); k_whole); intro D' h' F' N' l1; (try k_lt l1); (try k_sweep))
  k_with "CompRest" => (refine stop_out ?_)
  k_with "CompEnd" => k_dflt (first | (refine LCg.CompEnd.intro (by assumption) (by assumption) _ (fun _ h => h) (by assumption) (by lcg_src) ?_) | (refine LCg.CompEnd.intro (by assumption) (by assumption) _ (fun _ h => List.Mem.tail _ h) (by assumption) (by lcg_src) ?_))
  k_with "TurnV" => (refine TurnV.mk (fun _ h => h) (by first | exact StrIs.mk | exact IntIs.mk (by first | rfl | decide | omega) | rfl))
  k_with "FinE" => ((unfold LCg.FinE); intro D' h' tk' F' N' o1'; (replace o1' := off1H o1'); (try simp only [List.nil_append, List.cons_append] at N'); (try simp only [List.nil_append, List.cons_append] at o1'); (try dsimp only))
  k_with "FinA" => ((unfold LCg.FinA); intro D' h' tk' F' N' o1'; (replace o1' := off1H o1'); (try simp only [List.nil_append, List.cons_append] at N'); (try simp only [List.nil_append, List.cons_append] at o1'); (try dsimp only))
  k_with "subscriptTail Name Name ref int" => (k_here; (with_reducible show wpAny _ _ (subscriptTail _ _ (Value.ref _) (Value.int _ _)) _ _ _); k_dflt (refine' item_led ?N ?m ?a ?b ?x ?_; (case N => k_asm); (case m => k_mem); (case a => decide); (case b => decide); (case x => exact rfl)))
  k_with "subscriptTail Name Constant ref int" => (k_here; (with_reducible show wpAny _ _ (subscriptTail _ _ (Value.ref _) (Value.int _ _)) _ _ _); k_dflt (refine' item_led ?N ?m ?a ?b ?x ?_; (case N => k_asm); (case m => k_mem); (case a => decide); (case b => decide); (case x => exact rfl)))
  k_with "subscriptTail Name BinOp ref int" => (k_here; (with_reducible show wpAny _ _ (subscriptTail _ _ (Value.ref _) (Value.int _ _)) _ _ _); k_dflt (refine' item_led ?N ?m ?a ?b ?x ?_; (case N => k_asm); (case m => k_mem); (case a => decide); (case b => decide); (case x => exact rfl)))
  k_with "eval Name" => (k_here; (with_reducible show wpAny _ _ (eval (Expr.Name _ _) (compEnvC _ _ _ _)) _ _ _); k_dflt (first | (refine' lcf_cell ?N ?c ?m ?d ?_ ?a ?b; (case b => exact rfl); (case a => exact rfl); (case N => k_asm); (case c => exact rfl); (case m => k_mem); (case d => k_asm)) | (refine' LCgL.ld_own ?N ?m ?h ?x ?_ ?a ?b; (case b => exact rfl); (case a => exact rfl); (case N => k_asm); (case x => with_reducible assumption); (case m => k_mem); (case h => with_reducible assumption))))
  k_with "SrcS" => (refine stop_out ?_)
  k_with "eval ListComp" => (k_here; (with_reducible show wpAny _ _ (eval (Expr.ListComp _ _ _ _) _) _ _ _); lct_look; lcg_calm; k_dflt (refine listComp_S (F₀ := by k_asm) (by with_unfolding_all rfl) (by decide) (by rfl) (by decide) (by rfl) ?_))
  k_with "binaryOp Add ref ref" => (refine stop_out ?_)
  k_with "call builtin:chr" => (refine stop_out ?_)
  k_with "call builtin:str.join" => (refine stop_out ?_)
  k_with "TurnT" => (exact TurnT.mk (by lcg_sub) rfl StrIs.mk)
  k_with "TurnF" => (exact TurnF.mk (by lcg_sub) rfl)
  k_with "call ref" => (k_here; (with_reducible show wpAny _ _ (call (Value.ref 46) _ _) _ _ _); k_dflt (refine' use_ctr (c_inb1_v _ _ ?hc _ _ ?hb _) ?k1 ?k2 ?k3 ?k4 ?k5 ?kK ?kd ?ku ?_; (case k1 => k_asm); (case k2 => k_asm); (case k3 => k_asm); (case k4 => k_asm); (case k5 => k_asm); (case kK => first | exact rfl | assumption); (case kd => ktr_room); (case ku => ktr_units); (case hc => first | decide | omega); (case hb => assumption); (intro t9 h9 tk9 F9 N9; (try dsimp only))))
  k_with "call ref" => (k_here; (with_reducible show wpAny _ _ (call (Value.ref 92) _ _) _ _ _); k_dflt (refine' use_ctr (c_map_some _ _ ?hc _ _ _ ?hv _) ?k1 ?k2 ?k3 ?k4 ?k5 ?kK ?kd ?ku ?_; (case k1 => k_asm); (case k2 => k_asm); (case k3 => k_asm); (case k4 => k_asm); (case k5 => k_asm); (case kK => first | exact rfl | assumption); (case kd => ktr_room); (case ku => ktr_units); (case hc => first | decide | omega); (case hv => assumption); (intro t9 h9 tk9 F9 N9; (try dsimp only))))
  k_with "call ref" => (k_here; (with_reducible show wpAny _ _ (call (Value.ref 92) _ _) _ _ _); k_dflt (refine' use_ctr (c_map_same _ _ ?hc _ ?hv ?hl _) ?k1 ?k2 ?k3 ?k4 ?k5 ?kK ?kd ?ku ?_; (case k1 => k_asm); (case k2 => k_asm); (case k3 => k_asm); (case k4 => k_asm); (case k5 => k_asm); (case kK => first | exact rfl | assumption); (case kd => ktr_room); (case ku => ktr_units); (case hc => decide); (case hv => assumption); (case hl => assumption); (intro t9 h9 tk9 F9 N9; (try dsimp only))))
  delta Ctr PG lo; k_fill
  intro mean mg mb dp un gd cn cs a ccd cl outer A₀ base h₀ L m s Q E B F X N T hk hd hu hret
  have NA := (news_nil (h₀ := h₀) (L := L) (h := s.heap))
  refine wpAny_call ?_
  k_dflt (refine' enterM ?k1 ?k2 ?k3 ?kM ?k4 ?k5 ?kA ?kF ?kK ?k6 ?k7 ?k8 ?k9 ?kB ?_ ?c2 ?c3 ?c4 ?c5; (case kA => exact rfl); (case kF => exact rfl); (case kK => assumption); (case k1 => k_asm); (case k2 => k_asm); (case k3 => k_asm); (case kM => exact N); (case k4 => exact NA); (case k5 => k_asm); (case k6 => k_is); (case k7 => k_is); (case k8 => ktr_room); (case k9 => first | exact BindsTo.of_eq rfl | exact binds_K (by k_in) rfl (by k_is) rfl rfl rfl); (case c5 => decide); (case kB => exact locs rfl); (case c2 => exact rfl); (case c3 => exact rfl); (case c4 => exact rfl); k_whole; intro g' L' h' G' FG' F' N' B' X' T' l1; (try k_lt l1); (try dsimp only); (try k_lift B'); (try k_fold))
  k_steps
  refine stop_in ?_
  obtain ⟨j, hj, ej⟩ := pick_great wh
  have hj12 := great_lt hj
  rw [ej]
  refine chr_nat (c := 119808 + 52 * j + l) (by omega) (by omega) fun t7 k7 => ?_
  k_steps
  refine stop_in ?_
  k_dflt (refine' add_arrays_ints (ns := [173, 847, 6150, 6155, 6156, 6157, 8203, 8204, 8205, 8288, 65279]) ?F ?N ?a ?b ?c ?d ?_ ?z)
  (case F => k_asm)
  (case N => k_asm)
  (case a => is_list)
  (case b => is_list)
  (case c => (repeat' first | exact IntsAre.nil | refine IntsAre.cons _ _ ?_))
  (case d => exact IntsAre.ofCarried (by assumption))
  (case z => decide)
  k_whole
  intro h' F' N' hi'
  k_steps
  refine stop_in ?_
  obtain ⟨q, hq1, hq2, eq9⟩ := pick_hidden (wh.fdiv 10)
  rw [eq9]
  refine chr_nat (c := q) rfl hq2 fun t8 k8 => ?_
  have N9 := news_none N'
  clear hi' N'
  rcases hb with rfl | rfl | rfl
  all_goals k_steps
  · refine stop_in ?_
    refine ⟨⟨#[119808 + 52 * j + l, q]⟩, _, _, congrArg (fun x => Value.str x _) (by first | rfl | (rw [show Str.ofString "\\" = ⟨#[92]⟩ by decide +kernel]; rfl) | (rw [show Str.ofString "\\" = ⟨#[92]⟩ by decide +kernel, show Str.ofString "\"" = ⟨#[34]⟩ by decide +kernel]; rfl)), rfl, by k_asm, by k_asm, Nat.le_of_ble_eq_true rfl, ?_⟩
    rintro s₂ ⟨g, rfl⟩
    have hG : (119808 + 52 * j + l : Nat) < 1114112 := by omega
    have hGi : inB1 ((119808 + 52 * j + l : Nat) : Int) = false := inB1_big (by omega)
    obtain ⟨tG, hGv⟩ := b3_great hl hj
    replace hGv : b3Get ((119808 + 52 * j + l : Nat) : Int) = some (.str ⟨#[97 + l]⟩ tG) := by
      rw [show ((119808 + 52 * j + l : Nat) : Int) = 119808 + 52 * (j : Int) + (l : Int) by omega]; exact hGv
    have h92i : inB1 ((92 : Nat) : Int) = false := by decide +kernel
    have h34i : inB1 ((34 : Nat) : Int) = false := by decide +kernel
    have h92v : b3Get ((92 : Nat) : Int) = none := b3_92
    have h34v : b3Get ((34 : Nat) : Int) = none := b3_34
    have h92l : Txt.lower ⟨#[92]⟩ = ⟨#[92]⟩ := by decide +kernel
    have h34l : Txt.lower ⟨#[34]⟩ = ⟨#[34]⟩ := by decide +kernel
    refine restT [(true, StrIs ⟨#[97 + l]⟩), (false, StrIs Str.empty)] _ rfl trivial ⟨?_, ?_, trivial⟩ ?_
    · (intro v' I' oI' C' oC' D' m' h' tk' E' ys' hv' hC' hx' F' N' off' ne'; obtain ⟨c9, t9', hc9', hv9'⟩ := hv'; obtain rfl : 119808 + 52 * j + l = c9 := (by simpa using hc9'); subst hv9'; replace hx' : _ = some (Value.str ⟨#[119808 + 52 * j + l]⟩ t9') := hx'; (try dsimp only); k_steps)
    · (intro v' I' oI' C' oC' D' m' h' tk' E' ys' hv' hC' hx' F' N' off' ne'; obtain ⟨c9, t9', hc9', hv9'⟩ := hv'; obtain rfl : q = c9 := (by simpa using hc9'); subst hv9'; replace hx' : _ = some (Value.str ⟨#[q]⟩ t9') := hx'; (try dsimp only); k_steps)
    intro ys hys
    k_steps
    refine stop_in ?_
    rename News g' _ _ _ => N7
    refine join_listW (News.isList N7 (.head _)) (strsAre_filt (l := [(true, (⟨#[97 + l]⟩ : Str)), (false, (Str.empty : Str))]) hys) (by decide) (filtS_fits _ (by simp [Str.length, Str.empty]) (by simp)) ?_
    intro t9 k9
    k_steps
    have e9 : Txt.join (Str.ofString "") (filtL [(true, (⟨#[97 + l]⟩ : Str)), (false, (Str.empty : Str))]) = ⟨#[97 + l]⟩ := by rfl
    rw [e9]
    exact hret _ _ _ (by assumption) (by assumption)
  · refine stop_in ?_
    refine ⟨⟨#[119808 + 52 * j + l, q, 92, q, 34]⟩, _, _, congrArg (fun x => Value.str x _) (by first | rfl | (rw [show Str.ofString "\\" = ⟨#[92]⟩ by decide +kernel]; rfl) | (rw [show Str.ofString "\\" = ⟨#[92]⟩ by decide +kernel, show Str.ofString "\"" = ⟨#[34]⟩ by decide +kernel]; rfl)), rfl, by k_asm, by k_asm, Nat.le_of_ble_eq_true rfl, ?_⟩
    rintro s₂ ⟨g, rfl⟩
    have hG : (119808 + 52 * j + l : Nat) < 1114112 := by omega
    have hGi : inB1 ((119808 + 52 * j + l : Nat) : Int) = false := inB1_big (by omega)
    obtain ⟨tG, hGv⟩ := b3_great hl hj
    replace hGv : b3Get ((119808 + 52 * j + l : Nat) : Int) = some (.str ⟨#[97 + l]⟩ tG) := by
      rw [show ((119808 + 52 * j + l : Nat) : Int) = 119808 + 52 * (j : Int) + (l : Int) by omega]; exact hGv
    have h92i : inB1 ((92 : Nat) : Int) = false := by decide +kernel
    have h34i : inB1 ((34 : Nat) : Int) = false := by decide +kernel
    have h92v : b3Get ((92 : Nat) : Int) = none := b3_92
    have h34v : b3Get ((34 : Nat) : Int) = none := b3_34
    have h92l : Txt.lower ⟨#[92]⟩ = ⟨#[92]⟩ := by decide +kernel
    have h34l : Txt.lower ⟨#[34]⟩ = ⟨#[34]⟩ := by decide +kernel
    refine restT [(true, StrIs ⟨#[97 + l]⟩), (false, StrIs Str.empty), (true, StrIs ⟨#[92]⟩), (false, StrIs Str.empty), (true, StrIs ⟨#[34]⟩)] _ rfl trivial ⟨?_, ?_, ?_, ?_, ?_, trivial⟩ ?_
    · (intro v' I' oI' C' oC' D' m' h' tk' E' ys' hv' hC' hx' F' N' off' ne'; obtain ⟨c9, t9', hc9', hv9'⟩ := hv'; obtain rfl : 119808 + 52 * j + l = c9 := (by simpa using hc9'); subst hv9'; replace hx' : _ = some (Value.str ⟨#[119808 + 52 * j + l]⟩ t9') := hx'; (try dsimp only); k_steps)
    · (intro v' I' oI' C' oC' D' m' h' tk' E' ys' hv' hC' hx' F' N' off' ne'; obtain ⟨c9, t9', hc9', hv9'⟩ := hv'; obtain rfl : q = c9 := (by simpa using hc9'); subst hv9'; replace hx' : _ = some (Value.str ⟨#[q]⟩ t9') := hx'; (try dsimp only); k_steps)
    · (intro v' I' oI' C' oC' D' m' h' tk' E' ys' hv' hC' hx' F' N' off' ne'; obtain ⟨c9, t9', hc9', hv9'⟩ := hv'; obtain rfl : 92 = c9 := (by simpa using hc9'); subst hv9'; replace hx' : _ = some (Value.str ⟨#[92]⟩ t9') := hx'; (try dsimp only); k_steps)
    · (intro v' I' oI' C' oC' D' m' h' tk' E' ys' hv' hC' hx' F' N' off' ne'; obtain ⟨c9, t9', hc9', hv9'⟩ := hv'; obtain rfl : q = c9 := (by simpa using hc9'); subst hv9'; replace hx' : _ = some (Value.str ⟨#[q]⟩ t9') := hx'; (try dsimp only); k_steps)
    · (intro v' I' oI' C' oC' D' m' h' tk' E' ys' hv' hC' hx' F' N' off' ne'; obtain ⟨c9, t9', hc9', hv9'⟩ := hv'; obtain rfl : 34 = c9 := (by simpa using hc9'); subst hv9'; replace hx' : _ = some (Value.str ⟨#[34]⟩ t9') := hx'; (try dsimp only); k_steps)
    intro ys hys
    k_steps
    refine stop_in ?_
    rename News g' _ _ _ => N7
    refine join_listW (News.isList N7 (.head _)) (strsAre_filt (l := [(true, (⟨#[97 + l]⟩ : Str)), (false, (Str.empty : Str)), (true, (⟨#[92]⟩ : Str)), (false, (Str.empty : Str)), (true, (⟨#[34]⟩ : Str))]) hys) (by decide) (filtS_fits _ (by simp [Str.length, Str.empty]) (by simp)) ?_
    intro t9 k9
    k_steps
    have e9 : Txt.join (Str.ofString "") (filtL [(true, (⟨#[97 + l]⟩ : Str)), (false, (Str.empty : Str)), (true, (⟨#[92]⟩ : Str)), (false, (Str.empty : Str)), (true, (⟨#[34]⟩ : Str))]) = ⟨#[97 + l]⟩ ++ Str.ofString "\\\"" := by show Txt.join (Str.ofString "") [_, _, _] = _; rw [show Str.ofString "\\\"" = ⟨#[92, 34]⟩ by decide +kernel]; rfl
    rw [e9]
    exact hret _ _ _ (by assumption) (by assumption)
  · refine stop_in ?_
    refine ⟨⟨#[119808 + 52 * j + l, q, 92, q, 92]⟩, _, _, congrArg (fun x => Value.str x _) (by first | rfl | (rw [show Str.ofString "\\" = ⟨#[92]⟩ by decide +kernel]; rfl) | (rw [show Str.ofString "\\" = ⟨#[92]⟩ by decide +kernel, show Str.ofString "\"" = ⟨#[34]⟩ by decide +kernel]; rfl)), rfl, by k_asm, by k_asm, Nat.le_of_ble_eq_true rfl, ?_⟩
    rintro s₂ ⟨g, rfl⟩
    have hG : (119808 + 52 * j + l : Nat) < 1114112 := by omega
    have hGi : inB1 ((119808 + 52 * j + l : Nat) : Int) = false := inB1_big (by omega)
    obtain ⟨tG, hGv⟩ := b3_great hl hj
    replace hGv : b3Get ((119808 + 52 * j + l : Nat) : Int) = some (.str ⟨#[97 + l]⟩ tG) := by
      rw [show ((119808 + 52 * j + l : Nat) : Int) = 119808 + 52 * (j : Int) + (l : Int) by omega]; exact hGv
    have h92i : inB1 ((92 : Nat) : Int) = false := by decide +kernel
    have h34i : inB1 ((34 : Nat) : Int) = false := by decide +kernel
    have h92v : b3Get ((92 : Nat) : Int) = none := b3_92
    have h34v : b3Get ((34 : Nat) : Int) = none := b3_34
    have h92l : Txt.lower ⟨#[92]⟩ = ⟨#[92]⟩ := by decide +kernel
    have h34l : Txt.lower ⟨#[34]⟩ = ⟨#[34]⟩ := by decide +kernel
    refine restT [(true, StrIs ⟨#[97 + l]⟩), (false, StrIs Str.empty), (true, StrIs ⟨#[92]⟩), (false, StrIs Str.empty), (true, StrIs ⟨#[92]⟩)] _ rfl trivial ⟨?_, ?_, ?_, ?_, ?_, trivial⟩ ?_
    · (intro v' I' oI' C' oC' D' m' h' tk' E' ys' hv' hC' hx' F' N' off' ne'; obtain ⟨c9, t9', hc9', hv9'⟩ := hv'; obtain rfl : 119808 + 52 * j + l = c9 := (by simpa using hc9'); subst hv9'; replace hx' : _ = some (Value.str ⟨#[119808 + 52 * j + l]⟩ t9') := hx'; (try dsimp only); k_steps)
    · (intro v' I' oI' C' oC' D' m' h' tk' E' ys' hv' hC' hx' F' N' off' ne'; obtain ⟨c9, t9', hc9', hv9'⟩ := hv'; obtain rfl : q = c9 := (by simpa using hc9'); subst hv9'; replace hx' : _ = some (Value.str ⟨#[q]⟩ t9') := hx'; (try dsimp only); k_steps)
    · (intro v' I' oI' C' oC' D' m' h' tk' E' ys' hv' hC' hx' F' N' off' ne'; obtain ⟨c9, t9', hc9', hv9'⟩ := hv'; obtain rfl : 92 = c9 := (by simpa using hc9'); subst hv9'; replace hx' : _ = some (Value.str ⟨#[92]⟩ t9') := hx'; (try dsimp only); k_steps)
    · (intro v' I' oI' C' oC' D' m' h' tk' E' ys' hv' hC' hx' F' N' off' ne'; obtain ⟨c9, t9', hc9', hv9'⟩ := hv'; obtain rfl : q = c9 := (by simpa using hc9'); subst hv9'; replace hx' : _ = some (Value.str ⟨#[q]⟩ t9') := hx'; (try dsimp only); k_steps)
    · (intro v' I' oI' C' oC' D' m' h' tk' E' ys' hv' hC' hx' F' N' off' ne'; obtain ⟨c9, t9', hc9', hv9'⟩ := hv'; obtain rfl : 92 = c9 := (by simpa using hc9'); subst hv9'; replace hx' : _ = some (Value.str ⟨#[92]⟩ t9') := hx'; (try dsimp only); k_steps)
    intro ys hys
    k_steps
    refine stop_in ?_
    rename News g' _ _ _ => N7
    refine join_listW (News.isList N7 (.head _)) (strsAre_filt (l := [(true, (⟨#[97 + l]⟩ : Str)), (false, (Str.empty : Str)), (true, (⟨#[92]⟩ : Str)), (false, (Str.empty : Str)), (true, (⟨#[92]⟩ : Str))]) hys) (by decide) (filtS_fits _ (by simp [Str.length, Str.empty]) (by simp)) ?_
    intro t9 k9
    k_steps
    have e9 : Txt.join (Str.ofString "") (filtL [(true, (⟨#[97 + l]⟩ : Str)), (false, (Str.empty : Str)), (true, (⟨#[92]⟩ : Str)), (false, (Str.empty : Str)), (true, (⟨#[92]⟩ : Str))]) = ⟨#[97 + l]⟩ ++ Str.ofString "\\\\" := by show Txt.join (Str.ofString "") [_, _, _] = _; rw [show Str.ofString "\\\\" = ⟨#[92, 92]⟩ by decide +kernel]; rfl
    rw [e9]
    exact hret _ _ _ (by assumption) (by assumption)
  k_with_none
end

section
set_option maxHeartbeats 0 in
theorem c_nonterm (w : World) (x : Int) (t : Tok) (news : List (Addr × Obj)) : Ctr w 2 20 106 [.int x t] news (RetVal (fun _ => .bool (decide (256 ≤ x))) news) := by
  k_with "LeaveK" => (k_dflt (refine' leaveM ?hM ?hN ?G ?k1 ?k2 ?sub ?_; (case G => assumption); (case hM => assumption); (case hN => assumption); (case k1 => k_asm); (case k2 => k_asm); (case sub => lcg_sub)); intro kF kN kM; (try dsimp only))
  k_with "CompSrcT" => (k_here; k_dflt (first | (refine LCt.CompSrcT.range (n := 4) (by rfl) (by k_asm) (by k_asm) (by assumption) (by first | decide | rfl) (by first | rfl | decide) (by first | size_fits | exact Nat.le_of_ble_eq_true rfl) ?_; intro g') | (refine LCt.CompSrcT.range (n := 3) (by rfl) (by k_asm) (by k_asm) (by assumption) (by first | decide | rfl) (by first | rfl | decide) (by first | size_fits | exact Nat.le_of_ble_eq_true rfl) ?_; intro g') | (refine LCt.CompSrcT.range (n := 2) (by rfl) (by k_asm) (by k_asm) (by assumption) (by first | decide | rfl) (by first | rfl | decide) (by first | size_fits | exact Nat.le_of_ble_eq_true rfl) ?_; intro g') | (refine LCt.CompSrcT.range (n := 1) (by rfl) (by k_asm) (by k_asm) (by assumption) (by first | decide | rfl) (by first | rfl | decide) (by first | size_fits | exact Nat.le_of_ble_eq_true rfl) ?_; intro g') | (refine LCt.CompSrcT.range (n := 0) (by rfl) (by k_asm) (by k_asm) (by assumption) (by first | decide | rfl) (by first | rfl | decide) (by first | size_fits | exact Nat.le_of_ble_eq_true rfl) ?_; intro g')))
  k_with "CompRestT" => (refine stop_out ?_)
  k_with "TurnT" => (refine TurnT.mk (by first | exact fun _ h => h | lcg_sub) ?_ (by first | exact StrIs.mk | exact IntIs.mk (by first | rfl | decide | omega)); (try dsimp only); first | assumption | (with_unfolding_all exact decide_eq_true (by assumption)) | (simp_all; done))
  k_with "TurnF" => (refine TurnF.mk (by first | exact fun _ h => h | lcg_sub) ?_; (try dsimp only); first | assumption | (with_unfolding_all exact decide_eq_false (by assumption)) | (simp_all; done))
  k_with "eval ListComp" => (k_here; (with_reducible show wpAny _ _ (eval (Expr.ListComp _ _ _ _) _) _ _ _); first | (lct_look; lcg_calm; k_dflt (refine LCt.ListComp_T (F₀ := by k_asm) (by with_unfolding_all rfl) (by decide) (by rfl) (by decide) (by rfl) ?_); k_dflt lct_toSrc) | (lcf_look; lcg_calm; k_dflt (refine LCg.ListComp_U (F₀ := by k_asm) (by with_unfolding_all rfl) (by decide) (by rfl) (by decide) (by rfl) ?_); k_dflt lcg_toSrc) | (lcg_look; lcg_calm; k_dflt (refine LCg.ListComp_U (F₀ := by k_asm) (by rfl) (by decide) (by rfl) (by decide) (by rfl) ?_); k_dflt lcg_toSrc))
  k_with "binaryOp Mult ref int" => (k_here; (with_reducible show wpAny _ _ (binaryOp Operator.Mult (Value.ref _) (Value.int _ _)) _ _ _); k_dflt (refine' KMa.mul ?F ?N ?l ?lo ?hi ?z ?e ?_; (case F => k_asm); (case N => k_asm); (case l => is_list); (case lo => first | omega | decide); (case hi => first | omega | decide); (case z => (simp only [List.length_cons, List.length_nil]; decide)); (case e => (simp only [Int.sub_zero, Int.sub_self, Int.reduceSub, Int.reduceToNat, Int.toNat_zero, List.replicate_succ, List.replicate_zero, List.flatten_cons, List.flatten_nil, List.cons_append, List.nil_append, List.append_nil]; first | done | exact rfl)); k_whole); intro D' h' F' N' l1; (try k_lt l1); (try k_sweep))
  k_with "CompRest" => (refine stop_out ?_)
  k_with "CompEnd" => k_dflt (first | (refine LCg.CompEnd.intro (by assumption) (by assumption) _ (fun _ h => h) (by assumption) (by lcg_src) ?_) | (refine LCg.CompEnd.intro (by assumption) (by assumption) _ (fun _ h => List.Mem.tail _ h) (by assumption) (by lcg_src) ?_))
  k_with "TurnV" => (refine TurnV.mk (fun _ h => h) (by first | exact StrIs.mk | exact IntIs.mk (by first | rfl | decide | omega) | rfl))
  k_with "FinE" => ((unfold LCg.FinE); intro D' h' tk' F' N' o1'; (replace o1' := off1H o1'); (try simp only [List.nil_append, List.cons_append] at N'); (try simp only [List.nil_append, List.cons_append] at o1'); (try dsimp only))
  k_with "FinA" => ((unfold LCg.FinA); intro D' h' tk' F' N' o1'; (replace o1' := off1H o1'); (try simp only [List.nil_append, List.cons_append] at N'); (try simp only [List.nil_append, List.cons_append] at o1'); (try dsimp only))
  k_with "subscriptTail Name Name ref int" => (k_here; (with_reducible show wpAny _ _ (subscriptTail _ _ (Value.ref _) (Value.int _ _)) _ _ _); k_dflt (refine' item_led ?N ?m ?a ?b ?x ?_; (case N => k_asm); (case m => k_mem); (case a => decide); (case b => decide); (case x => exact rfl)))
  k_with "subscriptTail Name Constant ref int" => (k_here; (with_reducible show wpAny _ _ (subscriptTail _ _ (Value.ref _) (Value.int _ _)) _ _ _); k_dflt (refine' item_led ?N ?m ?a ?b ?x ?_; (case N => k_asm); (case m => k_mem); (case a => decide); (case b => decide); (case x => exact rfl)))
  k_with "subscriptTail Name BinOp ref int" => (k_here; (with_reducible show wpAny _ _ (subscriptTail _ _ (Value.ref _) (Value.int _ _)) _ _ _); k_dflt (refine' item_led ?N ?m ?a ?b ?x ?_; (case N => k_asm); (case m => k_mem); (case a => decide); (case b => decide); (case x => exact rfl)))
  k_with "eval Name" => (k_here; (with_reducible show wpAny _ _ (eval (Expr.Name _ _) (compEnvC _ _ _ _)) _ _ _); k_dflt (first | (refine' lcf_cell ?N ?c ?m ?d ?_ ?a ?b; (case b => exact rfl); (case a => exact rfl); (case N => k_asm); (case c => exact rfl); (case m => k_mem); (case d => k_asm)) | (refine' LCgL.ld_own ?N ?m ?h ?x ?_ ?a ?b; (case b => exact rfl); (case a => exact rfl); (case N => k_asm); (case x => with_reducible assumption); (case m => k_mem); (case h => with_reducible assumption))))
  delta Ctr PG lo; k_fill
  intro mean mg mb dp un gd cn cs a ccd cl outer A₀ base h₀ L m s Q E B F X N T hk hd hu hret
  have NA := (news_nil (h₀ := h₀) (L := L) (h := s.heap))
  refine wpAny_call ?_
  k_dflt (refine' enterM ?k1 ?k2 ?k3 ?kM ?k4 ?k5 ?kA ?kF ?kK ?k6 ?k7 ?k8 ?k9 ?kB ?_ ?c2 ?c3 ?c4 ?c5; (case kA => exact rfl); (case kF => exact rfl); (case kK => assumption); (case k1 => k_asm); (case k2 => k_asm); (case k3 => k_asm); (case kM => exact N); (case k4 => exact NA); (case k5 => k_asm); (case k6 => k_is); (case k7 => k_is); (case k8 => ktr_room); (case k9 => first | exact BindsTo.of_eq rfl | exact binds_K (by k_in) rfl (by k_is) rfl rfl rfl); (case c5 => decide); (case kB => exact locs rfl); (case c2 => exact rfl); (case c3 => exact rfl); (case c4 => exact rfl); k_whole; intro g' L' h' G' FG' F' N' B' X' T' l1; (try k_lt l1); (try dsimp only); (try k_lift B'); (try k_fold))
  k_steps
  exact hret 0 _ _ (by k_asm) (by k_asm)
  k_with_none
set_option maxHeartbeats 0 in
theorem c_term (w : World) (x : Int) (t : Tok) (news : List (Addr × Obj)) : Ctr w 2 20 99 [.int x t] news (RetVal (fun _ => .bool (decide (x < 256))) news) := by
  k_with "LeaveK" => (k_dflt (refine' leaveM ?hM ?hN ?G ?k1 ?k2 ?sub ?_; (case G => assumption); (case hM => assumption); (case hN => assumption); (case k1 => k_asm); (case k2 => k_asm); (case sub => lcg_sub)); intro kF kN kM; (try dsimp only))
  k_with "CompSrcT" => (k_here; k_dflt (first | (refine LCt.CompSrcT.range (n := 4) (by rfl) (by k_asm) (by k_asm) (by assumption) (by first | decide | rfl) (by first | rfl | decide) (by first | size_fits | exact Nat.le_of_ble_eq_true rfl) ?_; intro g') | (refine LCt.CompSrcT.range (n := 3) (by rfl) (by k_asm) (by k_asm) (by assumption) (by first | decide | rfl) (by first | rfl | decide) (by first | size_fits | exact Nat.le_of_ble_eq_true rfl) ?_; intro g') | (refine LCt.CompSrcT.range (n := 2) (by rfl) (by k_asm) (by k_asm) (by assumption) (by first | decide | rfl) (by first | rfl | decide) (by first | size_fits | exact Nat.le_of_ble_eq_true rfl) ?_; intro g') | (refine LCt.CompSrcT.range (n := 1) (by rfl) (by k_asm) (by k_asm) (by assumption) (by first | decide | rfl) (by first | rfl | decide) (by first | size_fits | exact Nat.le_of_ble_eq_true rfl) ?_; intro g') | (refine LCt.CompSrcT.range (n := 0) (by rfl) (by k_asm) (by k_asm) (by assumption) (by first | decide | rfl) (by first | rfl | decide) (by first | size_fits | exact Nat.le_of_ble_eq_true rfl) ?_; intro g')))
  k_with "CompRestT" => (refine stop_out ?_)
  k_with "TurnT" => (refine TurnT.mk (by first | exact fun _ h => h | lcg_sub) ?_ (by first | exact StrIs.mk | exact IntIs.mk (by first | rfl | decide | omega)); (try dsimp only); first | assumption | (with_unfolding_all exact decide_eq_true (by assumption)) | (simp_all; done))
  k_with "TurnF" => (refine TurnF.mk (by first | exact fun _ h => h | lcg_sub) ?_; (try dsimp only); first | assumption | (with_unfolding_all exact decide_eq_false (by assumption)) | (simp_all; done))
  k_with "eval ListComp" => (k_here; (with_reducible show wpAny _ _ (eval (Expr.ListComp _ _ _ _) _) _ _ _); first | (lct_look; lcg_calm; k_dflt (refine LCt.ListComp_T (F₀ := by k_asm) (by with_unfolding_all rfl) (by decide) (by rfl) (by decide) (by rfl) ?_); k_dflt lct_toSrc) | (lcf_look; lcg_calm; k_dflt (refine LCg.ListComp_U (F₀ := by k_asm) (by with_unfolding_all rfl) (by decide) (by rfl) (by decide) (by rfl) ?_); k_dflt lcg_toSrc) | (lcg_look; lcg_calm; k_dflt (refine LCg.ListComp_U (F₀ := by k_asm) (by rfl) (by decide) (by rfl) (by decide) (by rfl) ?_); k_dflt lcg_toSrc))
  k_with "binaryOp Mult ref int" => (k_here; (with_reducible show wpAny _ _ (binaryOp Operator.Mult (Value.ref _) (Value.int _ _)) _ _ _); k_dflt (refine' KMa.mul ?F ?N ?l ?lo ?hi ?z ?e ?_; (case F => k_asm); (case N => k_asm); (case l => is_list); (case lo => first | omega | decide); (case hi => first | omega | decide); (case z => (simp only [List.length_cons, List.length_nil]; decide)); (case e => (simp only [Int.sub_zero, Int.sub_self, Int.reduceSub, Int.reduceToNat, Int.toNat_zero, List.replicate_succ, List.replicate_zero, List.flatten_cons, List.flatten_nil, List.cons_append, List.nil_append, List.append_nil]; first | done | exact rfl)); k_whole); intro D' h' F' N' l1; (try k_lt l1); (try k_sweep))
  k_with "CompRest" => (refine stop_out ?_)
  k_with "CompEnd" => k_dflt (first | (refine LCg.CompEnd.intro (by assumption) (by assumption) _ (fun _ h => h) (by assumption) (by lcg_src) ?_) | (refine LCg.CompEnd.intro (by assumption) (by assumption) _ (fun _ h => List.Mem.tail _ h) (by assumption) (by lcg_src) ?_))
  k_with "TurnV" => (refine TurnV.mk (fun _ h => h) (by first | exact StrIs.mk | exact IntIs.mk (by first | rfl | decide | omega) | rfl))
  k_with "FinE" => ((unfold LCg.FinE); intro D' h' tk' F' N' o1'; (replace o1' := off1H o1'); (try simp only [List.nil_append, List.cons_append] at N'); (try simp only [List.nil_append, List.cons_append] at o1'); (try dsimp only))
  k_with "FinA" => ((unfold LCg.FinA); intro D' h' tk' F' N' o1'; (replace o1' := off1H o1'); (try simp only [List.nil_append, List.cons_append] at N'); (try simp only [List.nil_append, List.cons_append] at o1'); (try dsimp only))
  k_with "subscriptTail Name Name ref int" => (k_here; (with_reducible show wpAny _ _ (subscriptTail _ _ (Value.ref _) (Value.int _ _)) _ _ _); k_dflt (refine' item_led ?N ?m ?a ?b ?x ?_; (case N => k_asm); (case m => k_mem); (case a => decide); (case b => decide); (case x => exact rfl)))
  k_with "subscriptTail Name Constant ref int" => (k_here; (with_reducible show wpAny _ _ (subscriptTail _ _ (Value.ref _) (Value.int _ _)) _ _ _); k_dflt (refine' item_led ?N ?m ?a ?b ?x ?_; (case N => k_asm); (case m => k_mem); (case a => decide); (case b => decide); (case x => exact rfl)))
  k_with "subscriptTail Name BinOp ref int" => (k_here; (with_reducible show wpAny _ _ (subscriptTail _ _ (Value.ref _) (Value.int _ _)) _ _ _); k_dflt (refine' item_led ?N ?m ?a ?b ?x ?_; (case N => k_asm); (case m => k_mem); (case a => decide); (case b => decide); (case x => exact rfl)))
  k_with "eval Name" => (k_here; (with_reducible show wpAny _ _ (eval (Expr.Name _ _) (compEnvC _ _ _ _)) _ _ _); k_dflt (first | (refine' lcf_cell ?N ?c ?m ?d ?_ ?a ?b; (case b => exact rfl); (case a => exact rfl); (case N => k_asm); (case c => exact rfl); (case m => k_mem); (case d => k_asm)) | (refine' LCgL.ld_own ?N ?m ?h ?x ?_ ?a ?b; (case b => exact rfl); (case a => exact rfl); (case N => k_asm); (case x => with_reducible assumption); (case m => k_mem); (case h => with_reducible assumption))))
  delta Ctr PG lo; k_fill
  intro mean mg mb dp un gd cn cs a ccd cl outer A₀ base h₀ L m s Q E B F X N T hk hd hu hret
  have NA := (news_nil (h₀ := h₀) (L := L) (h := s.heap))
  refine wpAny_call ?_
  k_dflt (refine' enterM ?k1 ?k2 ?k3 ?kM ?k4 ?k5 ?kA ?kF ?kK ?k6 ?k7 ?k8 ?k9 ?kB ?_ ?c2 ?c3 ?c4 ?c5; (case kA => exact rfl); (case kF => exact rfl); (case kK => assumption); (case k1 => k_asm); (case k2 => k_asm); (case k3 => k_asm); (case kM => exact N); (case k4 => exact NA); (case k5 => k_asm); (case k6 => k_is); (case k7 => k_is); (case k8 => ktr_room); (case k9 => first | exact BindsTo.of_eq rfl | exact binds_K (by k_in) rfl (by k_is) rfl rfl rfl); (case c5 => decide); (case kB => exact locs rfl); (case c2 => exact rfl); (case c3 => exact rfl); (case c4 => exact rfl); k_whole; intro g' L' h' G' FG' F' N' B' X' T' l1; (try k_lt l1); (try dsimp only); (try k_lift B'); (try k_fold))
  k_steps
  exact hret 0 _ _ (by k_asm) (by k_asm)
  k_with_none



noncomputable abbrev JI (z : Int) (s : Shared) (v : Value) (s' : Shared) : Prop := ∃ t tk', v = .int z t ∧ s' = { s with toks := tk' }
theorem join_int {M : Model} {A : Around} {E : Value → Shared → Prop} {s : Shared} {b : Bool} {t1 t2 : Sem Value} {z1 z2 : Int} {Q : Value → Shared → Prop} (h1 : b = true → wpAny M A t1 (JI z1 s) E s) (h2 : b = false → wpAny M A t2 (JI z2 s) E s) (h : ∀ t tk', Q (.int (if b = true then z1 else z2) t) { s with toks := tk' }) : if b = true then wpAny M A t1 Q E s else wpAny M A t2 Q E s := by
  cases b with
  | true => exact wpAny_mono (h1 rfl) (fun v s' ⟨t, tk, e1, e2⟩ => by subst e1; subst e2; exact h t tk) fun _ _ e => e
  | false => exact wpAny_mono (h2 rfl) (fun v s' ⟨t, tk, e1, e2⟩ => by subst e1; subst e2; exact h t tk) fun _ _ e => e
/-- one fold of the way (the program's x after a ring) -/
noncomputable def fstep (x : Int) : Int := if decide (x < 256) = true then 2 * x else 2 * (511 - x)
noncomputable def ring0 (x : Int) : Bool := decide (256 ≤ 32 * x)
noncomputable def ring1 (x : Int) : Bool := decide (256 ≤ fstep (32 * x))
noncomputable def ring2 (x : Int) : Bool := decide (256 ≤ fstep (fstep (32 * x)))
noncomputable def ring3 (x : Int) : Bool := decide (256 ≤ fstep (fstep (fstep (32 * x))))

set_option maxHeartbeats 0 in
theorem c_folded (w : World) (x : Int) (h0 : 0 ≤ x) (h1 : x < 16) (t : Tok) (news : List (Addr × Obj)) : Ctr w 5 50 141 [.int x t] news (RetNew (listOf [.bool (ring0 x), .bool (ring1 x), .bool (ring2 x), .bool (ring3 x)].toArray) news) := by
  k_with "LeaveK" => (k_dflt (refine' leaveM ?hM ?hN ?G ?k1 ?k2 ?sub ?_; (case G => assumption); (case hM => assumption); (case hN => assumption); (case k1 => k_asm); (case k2 => k_asm); (case sub => lcg_sub)); intro kF kN kM; (try dsimp only))
  k_with "CompSrcT" => (k_here; k_dflt (first | (refine LCt.CompSrcT.range (n := 4) (by rfl) (by k_asm) (by k_asm) (by assumption) (by first | decide | rfl) (by first | rfl | decide) (by first | size_fits | exact Nat.le_of_ble_eq_true rfl) ?_; intro g') | (refine LCt.CompSrcT.range (n := 3) (by rfl) (by k_asm) (by k_asm) (by assumption) (by first | decide | rfl) (by first | rfl | decide) (by first | size_fits | exact Nat.le_of_ble_eq_true rfl) ?_; intro g') | (refine LCt.CompSrcT.range (n := 2) (by rfl) (by k_asm) (by k_asm) (by assumption) (by first | decide | rfl) (by first | rfl | decide) (by first | size_fits | exact Nat.le_of_ble_eq_true rfl) ?_; intro g') | (refine LCt.CompSrcT.range (n := 1) (by rfl) (by k_asm) (by k_asm) (by assumption) (by first | decide | rfl) (by first | rfl | decide) (by first | size_fits | exact Nat.le_of_ble_eq_true rfl) ?_; intro g') | (refine LCt.CompSrcT.range (n := 0) (by rfl) (by k_asm) (by k_asm) (by assumption) (by first | decide | rfl) (by first | rfl | decide) (by first | size_fits | exact Nat.le_of_ble_eq_true rfl) ?_; intro g')))
  k_with "CompRestT" => (refine stop_out ?_)
  k_with "TurnT" => (refine TurnT.mk (by first | exact fun _ h => h | lcg_sub) ?_ (by first | exact StrIs.mk | exact IntIs.mk (by first | rfl | decide | omega)); (try dsimp only); first | assumption | (with_unfolding_all exact decide_eq_true (by assumption)) | (simp_all; done))
  k_with "TurnF" => (refine TurnF.mk (by first | exact fun _ h => h | lcg_sub) ?_; (try dsimp only); first | assumption | (with_unfolding_all exact decide_eq_false (by assumption)) | (simp_all; done))
  k_with "eval ListComp" => (k_here; (with_reducible show wpAny _ _ (eval (Expr.ListComp _ _ _ _) _) _ _ _); first | (lct_look; lcg_calm; k_dflt (refine LCt.ListComp_T (F₀ := by k_asm) (by with_unfolding_all rfl) (by decide) (by rfl) (by decide) (by rfl) ?_); k_dflt lct_toSrc) | (lcf_look; lcg_calm; k_dflt (refine LCg.ListComp_U (F₀ := by k_asm) (by with_unfolding_all rfl) (by decide) (by rfl) (by decide) (by rfl) ?_); k_dflt lcg_toSrc) | (lcg_look; lcg_calm; k_dflt (refine LCg.ListComp_U (F₀ := by k_asm) (by rfl) (by decide) (by rfl) (by decide) (by rfl) ?_); k_dflt lcg_toSrc))
  k_with "binaryOp Mult ref int" => (k_here; (with_reducible show wpAny _ _ (binaryOp Operator.Mult (Value.ref _) (Value.int _ _)) _ _ _); k_dflt (refine' KMa.mul ?F ?N ?l ?lo ?hi ?z ?e ?_; (case F => k_asm); (case N => k_asm); (case l => is_list); (case lo => first | omega | decide); (case hi => first | omega | decide); (case z => (simp only [List.length_cons, List.length_nil]; decide)); (case e => (simp only [Int.sub_zero, Int.sub_self, Int.reduceSub, Int.reduceToNat, Int.toNat_zero, List.replicate_succ, List.replicate_zero, List.flatten_cons, List.flatten_nil, List.cons_append, List.nil_append, List.append_nil]; first | done | exact rfl)); k_whole); intro D' h' F' N' l1; (try k_lt l1); (try k_sweep))
  k_with "CompRest" => (refine stop_out ?_)
  k_with "CompEnd" => k_dflt (first | (refine LCg.CompEnd.intro (by assumption) (by assumption) _ (fun _ h => h) (by assumption) (by lcg_src) ?_) | (refine LCg.CompEnd.intro (by assumption) (by assumption) _ (fun _ h => List.Mem.tail _ h) (by assumption) (by lcg_src) ?_))
  k_with "TurnV" => (refine TurnV.mk (fun _ h => h) (by first | exact StrIs.mk | exact IntIs.mk (by first | rfl | decide | omega) | rfl))
  k_with "FinE" => ((unfold LCg.FinE); intro D' h' tk' F' N' o1'; (replace o1' := off1H o1'); (try simp only [List.nil_append, List.cons_append] at N'); (try simp only [List.nil_append, List.cons_append] at o1'); (try dsimp only))
  k_with "FinA" => ((unfold LCg.FinA); intro D' h' tk' F' N' o1'; (replace o1' := off1H o1'); (try simp only [List.nil_append, List.cons_append] at N'); (try simp only [List.nil_append, List.cons_append] at o1'); (try dsimp only))
  k_with "subscriptTail Name Name ref int" => (k_here; (with_reducible show wpAny _ _ (subscriptTail _ _ (Value.ref _) (Value.int _ _)) _ _ _); k_dflt (refine' item_led ?N ?m ?a ?b ?x ?_; (case N => k_asm); (case m => k_mem); (case a => decide); (case b => decide); (case x => exact rfl)))
  k_with "subscriptTail Name Constant ref int" => (k_here; (with_reducible show wpAny _ _ (subscriptTail _ _ (Value.ref _) (Value.int _ _)) _ _ _); k_dflt (refine' item_led ?N ?m ?a ?b ?x ?_; (case N => k_asm); (case m => k_mem); (case a => decide); (case b => decide); (case x => exact rfl)))
  k_with "subscriptTail Name BinOp ref int" => (k_here; (with_reducible show wpAny _ _ (subscriptTail _ _ (Value.ref _) (Value.int _ _)) _ _ _); k_dflt (refine' item_led ?N ?m ?a ?b ?x ?_; (case N => k_asm); (case m => k_mem); (case a => decide); (case b => decide); (case x => exact rfl)))
  k_with "eval Name" => (k_here; (with_reducible show wpAny _ _ (eval (Expr.Name _ _) (compEnvC _ _ _ _)) _ _ _); k_dflt (first | (refine' lcf_cell ?N ?c ?m ?d ?_ ?a ?b; (case b => exact rfl); (case a => exact rfl); (case N => k_asm); (case c => exact rfl); (case m => k_mem); (case d => k_asm)) | (refine' LCgL.ld_own ?N ?m ?h ?x ?_ ?a ?b; (case b => exact rfl); (case a => exact rfl); (case N => k_asm); (case x => with_reducible assumption); (case m => k_mem); (case h => with_reducible assumption))))
  k_with "call ref" => (k_here; (with_reducible show wpAny _ _ (call (Value.ref 106) _ _) _ _ _); k_dflt (refine' use_ctr (c_nonterm _ _ _ _) ?k1 ?k2 ?k3 ?k4 ?k5 ?kK ?kd ?ku ?_; (case k1 => k_asm); (case k2 => k_asm); (case k3 => k_asm); (case k4 => k_asm); (case k5 => k_asm); (case kK => first | exact rfl | assumption); (case kd => ktr_room); (case ku => ktr_units); (intro t9 h9 tk9 F9 N9; (try dsimp only))))
  k_with "call ref" => (k_here; (with_reducible show wpAny _ _ (call (Value.ref 99) _ _) _ _ _); k_dflt (refine' use_ctr (c_term _ _ _ _) ?k1 ?k2 ?k3 ?k4 ?k5 ?kK ?kd ?ku ?_; (case k1 => k_asm); (case k2 => k_asm); (case k3 => k_asm); (case k4 => k_asm); (case k5 => k_asm); (case kK => first | exact rfl | assumption); (case kd => ktr_room); (case ku => ktr_units); (intro t9 h9 tk9 F9 N9; (try dsimp only))))
  k_with "ite" => ((with_reducible show ite (_ = true) (wpAny _ _ (eval (Expr.BinOp _ _ _ _) _) _ _ _) (wpAny _ _ (eval (Expr.BinOp _ _ _ _) _) _ _ _)); k_dflt (refine' join_int ?a1 ?a2 ?_); (case a1 => (intro hc9; k_steps; exact ⟨_, _, rfl, rfl⟩)); (case a2 => (intro hc9; k_steps; exact ⟨_, _, rfl, rfl⟩)); intro t9 tk9; (try dsimp only))
  delta Ctr PG lo; k_fill
  intro mean mg mb dp un gd cn cs a ccd cl outer A₀ base h₀ L m s Q E B F X N T hk hd hu hret
  have NA := (news_nil (h₀ := h₀) (L := L) (h := s.heap))
  refine wpAny_call ?_
  k_dflt (refine' enterM ?k1 ?k2 ?k3 ?kM ?k4 ?k5 ?kA ?kF ?kK ?k6 ?k7 ?k8 ?k9 ?kB ?_ ?c2 ?c3 ?c4 ?c5; (case kA => exact rfl); (case kF => exact rfl); (case kK => assumption); (case k1 => k_asm); (case k2 => k_asm); (case k3 => k_asm); (case kM => exact N); (case k4 => exact NA); (case k5 => k_asm); (case k6 => k_is); (case k7 => k_is); (case k8 => ktr_room); (case k9 => first | exact BindsTo.of_eq rfl | exact binds_K (by k_in) rfl (by k_is) rfl rfl rfl); (case c5 => decide); (case kB => exact locs rfl); (case c2 => exact rfl); (case c3 => exact rfl); (case c4 => exact rfl); k_whole; intro g' L' h' G' FG' F' N' B' X' T' l1; (try k_lt l1); (try dsimp only); (try k_lift B'); (try k_fold))
  k_steps
  exact hret _ _ _ _ (by k_asm) (news_add (by assumption) (by assumption)) (new_ne (by assumption) (by assumption) (by simp))
  k_with_none
end

section
open LCg LCt
section
variable {prog : Program} {w : World} {A : Around} {E : Value → Shared → Prop} {s : Shared} {h₀ : Heap} {L : Addr} {m : Str → Option Value} {env : Env}
/-- a tuple of the ledger -/
noncomputable def TupAt (ax : Addr) (its : Array Value) (news : List (Addr × Obj)) : Prop := ∃ o, (ax, o) ∈ news ∧ o.cls = .type "tuple" ∧ ∃ n, o.data = .seq its n
theorem tupAt_mk {ax : Addr} {its : Array Value} {news : List (Addr × Obj)} {k : Nat} (hm : (ax, ({ cls := .type "tuple", data := .seq its k } : Obj)) ∈ news) : TupAt ax its news := ⟨_, hm, rfl, _, rfl⟩
theorem TupAt.tup {h₀ h : Heap} {L ax : Addr} {its : Array Value} {news : List (Addr × Obj)} (x : TupAt ax its news) (N : News h₀ L h news) : h.IsTuple ax its := by
  obtain ⟨o, hm, r⟩ := x
  exact ⟨o, (N _ hm).1, r⟩
theorem tuple_st {ax I : Addr} {its : Array Value} : ∀ i (h h' : Heap) (o : Obj) (nw : List (Addr × Obj)), (h.IsTupleIter I ax i ∧ h.IsTuple ax its) → h.get? I = some o → h'.get? I = some o → (∀ b o, h₀.get? b = some o → h'.get? b = some o) → News h₀ L h' nw → TupAt ax its nw → (h'.IsTupleIter I ax i ∧ h'.IsTuple ax its) :=
  fun i h h' o nw st e e' k N S => ⟨by obtain ⟨o', q, r⟩ := st.1; rw [e] at q; cases q; exact ⟨o, e', r⟩, S.tup N⟩
noncomputable def SrcTT (prog : Program) (w : World) (A : Around) (h₀ : Heap) (L : Addr) (m : Str → Option Value) (env : Env) (ct elt : Expr) (x : Str) (scope : Scope) (cl : List (Str × Addr)) (Fin : Shared → List Value → List (Addr × Obj) → Prop) (xv : Value) (s₁ : Shared) : Prop :=
  ∃ ax its news, xv = .ref ax ∧ A.handled = none ∧ Fr h₀ L s₁.heap m ∧ News h₀ L s₁.heap news ∧ TupAt ax its news ∧ its.size ≤ sizeLine ∧
    ∀ s₂ : Shared, (∃ h, s₂ = { s₁ with heap := h }) → CompRestT prog w A h₀ L m env ct elt x scope cl s₂ (TupAt ax its) (fun i v => its[i]? = some v) (Fin s₂) its.size 0 [] news
theorem assign_listComp_tup {ct elt iter : Expr} {x y : Str} {px py : Pos} {scope : Scope} {cl : List (Str × Addr)} {pos spos : Pos} {Q : Flow → Shared → Prop} (F₀ : Fr h₀ L s.heap m) (hLe : env.locals = L)
    (hsw : swapsWith (.ListComp elt [⟨.Name x px, iter, [ct], 0⟩] scope pos) (some (.Name y py)) spos.line env = pure true)
    (hclos : closureFor scope env = pure cl) (hcell : ∀ z ∈ scope.names, z.2 ≠ .cell) (hkind : scope.kind = .function)
    (hnames : ∀ z ∈ scope.names, z.2 = .local → scope.names.lookup z.1 = some .local) (hx : scope.names.lookup x = some .local)
    (hy : env.kindOf y = some .local) (hp : (env.scope.kind == .class || (env.scope.kind == .module && env.locals != env.globals)) = false)
    (h : wpAny (model prog w) A (eval iter env) (SrcTT prog w A h₀ L m env ct elt x scope cl (fun s₂ => FinA h₀ L m s₂ y Q)) E s)
    (hs : ∀ x, foldedSetIterable iter env x = pure x := by intro _; rfl) :
    wpAny (model prog w) A (exec (.Assign [.Name y py] (.ListComp elt [⟨.Name x px, iter, [ct], 0⟩] scope pos) spos) env) Q E s := by
  subst hLe
  rw [exec_Assign_Name_used _ _ _ _ hsw]
  refine wpAny_bind (wpAny_standAt (wpAny_bind ?_))
  show wpAny _ A (do let _ ← comprehension (.ListComp elt [⟨.Name x px, iter, [ct], 0⟩] scope pos) scope env _ (newList []) false (eval iter env) (some (assign (.Name y py) env))) _ _ s
  refine wpAny_bind (wpAny_mono (wpAny_comprehension_free (use := some (assign (.Name y py) env)) (Q := fun _ s' => Q .next s') rfl hs hclos hkind hnames
    (wpAny_mono h (fun xv s₁ h₁ => ?_) fun _ _ e => e)) (fun _ s' hq => wpAny_pure (wpAny_pure hq)) fun _ _ e => e)
  obtain ⟨ax, its, news, rfl, hh, F, N, S, hsz, R⟩ := h₁
  have hl := S.tup N
  have hlt : ax < s₁.heap.objs.size := by obtain ⟨_, e, _⟩ := hl; exact Heap.lt_size e
  refine wpAny_pyIter_tuple hl ?_
  have up : ∀ b o, s₁.heap.get? b = some o → (s₁.heap.push { cls := .type "tuple_iterator", data := .fields #[.ref ax, .int 0 0] }).get? b = some o := fun b o e => Heap.get?_push_of_some _ e
  refine block_T (Walks.tuple hh s₁.heap.objs.size ax (Nat.ne_of_lt hlt) its) hsz (fun i h st => by obtain ⟨o, e, _⟩ := st.1; exact ⟨o, e⟩) tuple_st hcell hkind hx ⟨⟨_, Heap.get?_push_size _ rfl, rfl, rfl⟩, (let ⟨o, e, r⟩ := hl; ⟨o, up _ _ e, r⟩)⟩ (fun b hb => ?_)
    (F.keeps up) (N.grown up) (Nat.ne_of_lt F.ns.lt) (next_is_new F) (fun p hp => Nat.ne_of_lt (Heap.lt_size (N p hp).1)) S (R _ ⟨_, rfl⟩) ?_
  · show b < (s₁.heap.push _).objs.size
    rw [Heap.size_push]
    rcases List.mem_cons.mp hb with rfl | hb
    · exact Nat.lt_succ_self _
    · rw [List.mem_singleton.mp hb]; exact Nat.lt_succ_of_lt hlt
  · intro D C h' tk m' ys news' F' N' o1 hn hC₀ hD₀ hCL hDL hCD offC fin
    show wpAny _ A (assign (.Name y py) env (.ref D)) _ _ _
    refine wpAny_assign_Name (wpAny_storeName_local hy F'.ns (fun h₂ hn₂ hs₂ => ?_) hp)
    have hL₀ : h₀.get? env.locals = none := Heap.get?_none_of_le F'.above
    have F₂ : Fr h₀ env.locals h₂ (fun z => if z = y then some (.ref D) else m z) := ⟨hn₂, fun b o e => hs₂.extBut b o (fun q => by rw [q, hL₀] at e; cases e) (F'.keep b o e), F'.above⟩
    refine ⟨m', hn.sameBut hs₂ hCL, fun h'' hs'' => fin D h'' _ (F₂.change hs'' hCL hC₀) (fun p hp => ?_) o1⟩
    have z : h₂.get? p.1 = some p.2 := hs₂.extBut _ _ (N' p hp).2.1 (N' p hp).1
    refine ⟨hs''.extBut _ _ ?_ z, (N' p hp).2⟩
    rcases List.mem_cons.mp hp with rfl | hp
    · exact Ne.symm hCD
    · exact offC p hp
end
end
section
section
variable {prog : Program} {w : World} {A : Around} {E : Value → Shared → Prop} {s : Shared}
noncomputable def isI (k : Int) (y : Value) : Bool := match y with | .int a _ => a == k | _ => false
theorem isI_any {k : Int} : ∀ {vs : List Value} {ns : List Int}, IntsAre vs ns → vs.any (isI k) = ns.any (· == k)
  | _, _, .nil => rfl
  | _, _, .cons _ t r => by simp only [List.any_cons, isI_any r]; rfl
theorem intsAre_mem : ∀ {vs : List Value} {ns : List Int}, IntsAre vs ns → ∀ y ∈ vs, ∃ a t, y = .int a t
  | _, _, .nil, _, h => nomatch h
  | _, _, .cons a t r, y, h => by
    rcases List.mem_cons.mp h with rfl | h
    · exact ⟨a, t, rfl⟩
    · exact intsAre_mem r y h
theorem in_ints {l : Addr} {vs : List Value} {ns : List Int} {k : Int} {t : Tok} {Q : Value → Shared → Prop} (hl : s.heap.IsList l vs.toArray) (hi : IntsAre vs ns) (h : Q (.bool (ns.any (· == k))) s) :
    wpAny (model prog w) A (compareOp .In (.int k t) (.ref l)) Q E s := by
  refine PySem.SeqAt.in_listAt (isI k) hl (fun y hy => ?_) ?_
  · obtain ⟨a, u, rfl⟩ := intsAre_mem hi y (by simpa using hy)
    exact PySem.SeqAt.EqAt.int_int a u k t
  · rw [List.any_toArray, isI_any hi]; exact h
end
end
section
open LCg LCt
section
variable {prog : Program} {w : World} {A : Around} {h₀ : Heap} {L : Addr} {m : Str → Option Value} {env : Env} {ct elt : PySem.Expr} {x : Str} {scope : Scope} {cl : List (Str × Addr)} {s : Shared} {S : List (Addr × Obj) → Prop} {P : Nat → Value → Prop} {news : List (Addr × Obj)}
theorem turnsAt_all : ∀ (l : List (Bool × (Value → Prop))) (i : Nat), (∀ j p, l[j]? = some p → TurnAt prog w A h₀ L m env ct elt x scope cl s S P news (i + j) p.1 p.2) → TurnsAt prog w A h₀ L m env ct elt x scope cl s S P news i l
  | [], _, _ => trivial
  | p :: r, i, h => ⟨h 0 p rfl, turnsAt_all r (i + 1) fun j q hq => by have := h (j + 1) q (by simpa using hq); rwa [show i + (j + 1) = i + 1 + j by omega] at this⟩
theorem filtL_map (f : Int → Bool) : ∀ ns : List Int, filtL (ns.map fun k => (f k, k)) = ns.filter f
  | [] => rfl
  | k :: r => by
    simp only [List.map_cons, filtL, filtL_map f r, List.filter_cons]
theorem intsAre_get : ∀ {us : List Value} {ns : List Int}, IntsAre us ns → ∀ (i : Nat) (v : Value), us[i]? = some v → ∃ k t, ns[i]? = some k ∧ v = .int k t
  | _, _, .nil, i, v, h => by simp at h
  | _, _, .cons a t r, 0, v, h => ⟨a, t, rfl, by simpa using h.symm⟩
  | _, _, .cons a t r, i + 1, v, h => by simpa using intsAre_get r i v (by simpa using h)
theorem restT_ints {Fin : List Value → List (Addr × Obj) → Prop} {us : List Value} {ns : List Int} (hi : IntsAre us ns) (f : Int → Bool) (hS : S news)
    (turn : ∀ i k t, ns[i]? = some k → TurnAt prog w A h₀ L m env ct elt x scope cl s S (fun _ v => v = .int k t) news i (f k) (IntIs k))
    (hF : ∀ ys, IntsAre ys (ns.filter f) → Fin ys news) : CompRestT prog w A h₀ L m env ct elt x scope cl s S (fun i v => us.toArray[i]? = some v) Fin us.toArray.size 0 [] news := by
  refine restT (ns.map fun k => (f k, IntIs k)) _ (by simp [hi.length]) hS (turnsAt_all _ 0 fun j p hp => ?_) fun ys hys => hF ys ?_
  · rw [List.getElem?_map] at hp
    obtain ⟨k, hk, rfl⟩ := Option.map_eq_some_iff.mp hp
    intro v I oI C oC D m₂ h tk E' ys hv
    rw [Nat.zero_add] at hv
    obtain ⟨k', t, hk', rfl⟩ := intsAre_get hi j v (by simpa using hv)
    rw [hk] at hk'; cases hk'
    exact turn j k t hk (.int k t) I oI C oC D m₂ h tk E' ys rfl
  · rw [← filtL_map]
    refine intsAre_filt ?_
    rw [List.map_map]
    exact hys
end
end

section
set_option maxHeartbeats 0 in
theorem c_changed0 (w : World) (lr nr : Nat) (b0 b1 b2 b3 : Bool) (t : Tok) (news : List (Addr × Obj)) (hm : (lr, listOf [.bool b0, .bool b1, .bool b2, .bool b3].toArray nr) ∈ news) : Ctr w 5 150 168 [.ref lr, .int 0 t] news (RetNew (listOf [.bool (!b0), .bool (b1), .bool (b2), .bool (b3)].toArray) news) := by
  k_with "LeaveK" => (k_dflt (refine' leaveM ?hM ?hN ?G ?k1 ?k2 ?sub ?_; (case G => assumption); (case hM => assumption); (case hN => assumption); (case k1 => k_asm); (case k2 => k_asm); (case sub => lcg_sub)); intro kF kN kM; (try dsimp only))
  k_with "CompSrcT" => (k_here; k_dflt (first | (refine LCt.CompSrcT.range (n := 4) (by rfl) (by k_asm) (by k_asm) (by assumption) (by first | decide | rfl) (by first | rfl | decide) (by first | size_fits | exact Nat.le_of_ble_eq_true rfl) ?_; intro g') | (refine LCt.CompSrcT.range (n := 3) (by rfl) (by k_asm) (by k_asm) (by assumption) (by first | decide | rfl) (by first | rfl | decide) (by first | size_fits | exact Nat.le_of_ble_eq_true rfl) ?_; intro g') | (refine LCt.CompSrcT.range (n := 2) (by rfl) (by k_asm) (by k_asm) (by assumption) (by first | decide | rfl) (by first | rfl | decide) (by first | size_fits | exact Nat.le_of_ble_eq_true rfl) ?_; intro g') | (refine LCt.CompSrcT.range (n := 1) (by rfl) (by k_asm) (by k_asm) (by assumption) (by first | decide | rfl) (by first | rfl | decide) (by first | size_fits | exact Nat.le_of_ble_eq_true rfl) ?_; intro g') | (refine LCt.CompSrcT.range (n := 0) (by rfl) (by k_asm) (by k_asm) (by assumption) (by first | decide | rfl) (by first | rfl | decide) (by first | size_fits | exact Nat.le_of_ble_eq_true rfl) ?_; intro g')))
  k_with "CompRestT" => (refine stop_out ?_)
  k_with "TurnT" => (refine TurnT.mk (by first | exact fun _ h => h | lcg_sub) ?_ (by first | exact StrIs.mk | exact IntIs.mk (by first | rfl | decide | omega)); (try dsimp only); first | assumption | (with_unfolding_all exact decide_eq_true (by assumption)) | (simp_all; done))
  k_with "TurnF" => (refine TurnF.mk (by first | exact fun _ h => h | lcg_sub) ?_; (try dsimp only); first | assumption | (with_unfolding_all exact decide_eq_false (by assumption)) | (simp_all; done))
  k_with "eval ListComp" => (k_here; (with_reducible show wpAny _ _ (eval (Expr.ListComp _ _ _ _) _) _ _ _); first | (lct_look; lcg_calm; k_dflt (refine LCt.ListComp_T (F₀ := by k_asm) (by with_unfolding_all rfl) (by decide) (by rfl) (by decide) (by rfl) ?_); k_dflt lct_toSrc) | (lcf_look; lcg_calm; k_dflt (refine LCg.ListComp_U (F₀ := by k_asm) (by with_unfolding_all rfl) (by decide) (by rfl) (by decide) (by rfl) ?_); k_dflt lcg_toSrc) | (lcg_look; lcg_calm; k_dflt (refine LCg.ListComp_U (F₀ := by k_asm) (by rfl) (by decide) (by rfl) (by decide) (by rfl) ?_); k_dflt lcg_toSrc))
  k_with "binaryOp Mult ref int" => (k_here; (with_reducible show wpAny _ _ (binaryOp Operator.Mult (Value.ref _) (Value.int _ _)) _ _ _); k_dflt (refine' KMa.mul ?F ?N ?l ?lo ?hi ?z ?e ?_; (case F => k_asm); (case N => k_asm); (case l => is_list); (case lo => first | omega | decide); (case hi => first | omega | decide); (case z => (simp only [List.length_cons, List.length_nil]; decide)); (case e => (simp only [Int.sub_zero, Int.sub_self, Int.reduceSub, Int.reduceToNat, Int.toNat_zero, List.replicate_succ, List.replicate_zero, List.flatten_cons, List.flatten_nil, List.cons_append, List.nil_append, List.append_nil]; first | done | exact rfl)); k_whole); intro D' h' F' N' l1; (try k_lt l1); (try k_sweep))
  k_with "CompRest" => (refine stop_out ?_)
  k_with "CompEnd" => k_dflt (first | (refine LCg.CompEnd.intro (by assumption) (by assumption) _ (fun _ h => h) (by assumption) (by lcg_src) ?_) | (refine LCg.CompEnd.intro (by assumption) (by assumption) _ (fun _ h => List.Mem.tail _ h) (by assumption) (by lcg_src) ?_))
  k_with "TurnV" => (refine TurnV.mk (fun _ h => h) (by first | exact StrIs.mk | exact IntIs.mk (by first | rfl | decide | omega) | rfl))
  k_with "FinE" => ((unfold LCg.FinE); intro D' h' tk' F' N' o1'; (replace o1' := off1H o1'); (try simp only [List.nil_append, List.cons_append] at N'); (try simp only [List.nil_append, List.cons_append] at o1'); (try dsimp only))
  k_with "FinA" => ((unfold LCg.FinA); intro D' h' tk' F' N' o1'; (replace o1' := off1H o1'); (try simp only [List.nil_append, List.cons_append] at N'); (try simp only [List.nil_append, List.cons_append] at o1'); (try dsimp only))
  k_with "subscriptTail Name Name ref int" => (k_here; (with_reducible show wpAny _ _ (subscriptTail _ _ (Value.ref _) (Value.int _ _)) _ _ _); k_dflt (refine' item_led ?N ?m ?a ?b ?x ?_; (case N => k_asm); (case m => k_mem); (case a => decide); (case b => decide); (case x => exact rfl)))
  k_with "subscriptTail Name Constant ref int" => (k_here; (with_reducible show wpAny _ _ (subscriptTail _ _ (Value.ref _) (Value.int _ _)) _ _ _); k_dflt (refine' item_led ?N ?m ?a ?b ?x ?_; (case N => k_asm); (case m => k_mem); (case a => decide); (case b => decide); (case x => exact rfl)))
  k_with "subscriptTail Name BinOp ref int" => (k_here; (with_reducible show wpAny _ _ (subscriptTail _ _ (Value.ref _) (Value.int _ _)) _ _ _); k_dflt (refine' item_led ?N ?m ?a ?b ?x ?_; (case N => k_asm); (case m => k_mem); (case a => decide); (case b => decide); (case x => exact rfl)))
  k_with "eval Name" => (k_here; (with_reducible show wpAny _ _ (eval (Expr.Name _ _) (compEnvC _ _ _ _)) _ _ _); k_dflt (first | (refine' lcf_cell ?N ?c ?m ?d ?_ ?a ?b; (case b => exact rfl); (case a => exact rfl); (case N => k_asm); (case c => exact rfl); (case m => k_mem); (case d => k_asm)) | (refine' LCgL.ld_own ?N ?m ?h ?x ?_ ?a ?b; (case b => exact rfl); (case a => exact rfl); (case N => k_asm); (case x => with_reducible assumption); (case m => k_mem); (case h => with_reducible assumption))))
  delta Ctr PG lo; k_fill
  intro mean mg mb dp un gd cn cs a ccd cl outer A₀ base h₀ L m s Q E B F X N T hk hd hu hret
  have NA := (news_one (N _ hm) (news_nil (h₀ := h₀) (L := L) (h := s.heap)))
  refine wpAny_call ?_
  k_dflt (refine' enterM ?k1 ?k2 ?k3 ?kM ?k4 ?k5 ?kA ?kF ?kK ?k6 ?k7 ?k8 ?k9 ?kB ?_ ?c2 ?c3 ?c4 ?c5; (case kA => exact rfl); (case kF => exact rfl); (case kK => assumption); (case k1 => k_asm); (case k2 => k_asm); (case k3 => k_asm); (case kM => exact N); (case k4 => exact NA); (case k5 => k_asm); (case k6 => k_is); (case k7 => k_is); (case k8 => ktr_room); (case k9 => first | exact BindsTo.of_eq rfl | exact binds_K (by k_in) rfl (by k_is) rfl rfl rfl); (case c5 => decide); (case kB => exact locs rfl); (case c2 => exact rfl); (case c3 => exact rfl); (case c4 => exact rfl); k_whole; intro g' L' h' G' FG' F' N' B' X' T' l1; (try k_lt l1); (try dsimp only); (try k_lift B'); (try k_fold))
  k_steps
  exact hret _ _ _ _ (by k_asm) (news_add (by assumption) (by assumption)) (new_ne (by assumption) (by assumption) (by k_all))
  k_with_none
set_option maxHeartbeats 0 in
theorem c_changed1 (w : World) (lr nr : Nat) (b0 b1 b2 b3 : Bool) (t : Tok) (news : List (Addr × Obj)) (hm : (lr, listOf [.bool b0, .bool b1, .bool b2, .bool b3].toArray nr) ∈ news) : Ctr w 5 150 168 [.ref lr, .int 1 t] news (RetNew (listOf [.bool (b0), .bool (!b1), .bool (b2), .bool (b3)].toArray) news) := by
  k_with "LeaveK" => (k_dflt (refine' leaveM ?hM ?hN ?G ?k1 ?k2 ?sub ?_; (case G => assumption); (case hM => assumption); (case hN => assumption); (case k1 => k_asm); (case k2 => k_asm); (case sub => lcg_sub)); intro kF kN kM; (try dsimp only))
  k_with "CompSrcT" => (k_here; k_dflt (first | (refine LCt.CompSrcT.range (n := 4) (by rfl) (by k_asm) (by k_asm) (by assumption) (by first | decide | rfl) (by first | rfl | decide) (by first | size_fits | exact Nat.le_of_ble_eq_true rfl) ?_; intro g') | (refine LCt.CompSrcT.range (n := 3) (by rfl) (by k_asm) (by k_asm) (by assumption) (by first | decide | rfl) (by first | rfl | decide) (by first | size_fits | exact Nat.le_of_ble_eq_true rfl) ?_; intro g') | (refine LCt.CompSrcT.range (n := 2) (by rfl) (by k_asm) (by k_asm) (by assumption) (by first | decide | rfl) (by first | rfl | decide) (by first | size_fits | exact Nat.le_of_ble_eq_true rfl) ?_; intro g') | (refine LCt.CompSrcT.range (n := 1) (by rfl) (by k_asm) (by k_asm) (by assumption) (by first | decide | rfl) (by first | rfl | decide) (by first | size_fits | exact Nat.le_of_ble_eq_true rfl) ?_; intro g') | (refine LCt.CompSrcT.range (n := 0) (by rfl) (by k_asm) (by k_asm) (by assumption) (by first | decide | rfl) (by first | rfl | decide) (by first | size_fits | exact Nat.le_of_ble_eq_true rfl) ?_; intro g')))
  k_with "CompRestT" => (refine stop_out ?_)
  k_with "TurnT" => (refine TurnT.mk (by first | exact fun _ h => h | lcg_sub) ?_ (by first | exact StrIs.mk | exact IntIs.mk (by first | rfl | decide | omega)); (try dsimp only); first | assumption | (with_unfolding_all exact decide_eq_true (by assumption)) | (simp_all; done))
  k_with "TurnF" => (refine TurnF.mk (by first | exact fun _ h => h | lcg_sub) ?_; (try dsimp only); first | assumption | (with_unfolding_all exact decide_eq_false (by assumption)) | (simp_all; done))
  k_with "eval ListComp" => (k_here; (with_reducible show wpAny _ _ (eval (Expr.ListComp _ _ _ _) _) _ _ _); first | (lct_look; lcg_calm; k_dflt (refine LCt.ListComp_T (F₀ := by k_asm) (by with_unfolding_all rfl) (by decide) (by rfl) (by decide) (by rfl) ?_); k_dflt lct_toSrc) | (lcf_look; lcg_calm; k_dflt (refine LCg.ListComp_U (F₀ := by k_asm) (by with_unfolding_all rfl) (by decide) (by rfl) (by decide) (by rfl) ?_); k_dflt lcg_toSrc) | (lcg_look; lcg_calm; k_dflt (refine LCg.ListComp_U (F₀ := by k_asm) (by rfl) (by decide) (by rfl) (by decide) (by rfl) ?_); k_dflt lcg_toSrc))
  k_with "binaryOp Mult ref int" => (k_here; (with_reducible show wpAny _ _ (binaryOp Operator.Mult (Value.ref _) (Value.int _ _)) _ _ _); k_dflt (refine' KMa.mul ?F ?N ?l ?lo ?hi ?z ?e ?_; (case F => k_asm); (case N => k_asm); (case l => is_list); (case lo => first | omega | decide); (case hi => first | omega | decide); (case z => (simp only [List.length_cons, List.length_nil]; decide)); (case e => (simp only [Int.sub_zero, Int.sub_self, Int.reduceSub, Int.reduceToNat, Int.toNat_zero, List.replicate_succ, List.replicate_zero, List.flatten_cons, List.flatten_nil, List.cons_append, List.nil_append, List.append_nil]; first | done | exact rfl)); k_whole); intro D' h' F' N' l1; (try k_lt l1); (try k_sweep))
  k_with "CompRest" => (refine stop_out ?_)
  k_with "CompEnd" => k_dflt (first | (refine LCg.CompEnd.intro (by assumption) (by assumption) _ (fun _ h => h) (by assumption) (by lcg_src) ?_) | (refine LCg.CompEnd.intro (by assumption) (by assumption) _ (fun _ h => List.Mem.tail _ h) (by assumption) (by lcg_src) ?_))
  k_with "TurnV" => (refine TurnV.mk (fun _ h => h) (by first | exact StrIs.mk | exact IntIs.mk (by first | rfl | decide | omega) | rfl))
  k_with "FinE" => ((unfold LCg.FinE); intro D' h' tk' F' N' o1'; (replace o1' := off1H o1'); (try simp only [List.nil_append, List.cons_append] at N'); (try simp only [List.nil_append, List.cons_append] at o1'); (try dsimp only))
  k_with "FinA" => ((unfold LCg.FinA); intro D' h' tk' F' N' o1'; (replace o1' := off1H o1'); (try simp only [List.nil_append, List.cons_append] at N'); (try simp only [List.nil_append, List.cons_append] at o1'); (try dsimp only))
  k_with "subscriptTail Name Name ref int" => (k_here; (with_reducible show wpAny _ _ (subscriptTail _ _ (Value.ref _) (Value.int _ _)) _ _ _); k_dflt (refine' item_led ?N ?m ?a ?b ?x ?_; (case N => k_asm); (case m => k_mem); (case a => decide); (case b => decide); (case x => exact rfl)))
  k_with "subscriptTail Name Constant ref int" => (k_here; (with_reducible show wpAny _ _ (subscriptTail _ _ (Value.ref _) (Value.int _ _)) _ _ _); k_dflt (refine' item_led ?N ?m ?a ?b ?x ?_; (case N => k_asm); (case m => k_mem); (case a => decide); (case b => decide); (case x => exact rfl)))
  k_with "subscriptTail Name BinOp ref int" => (k_here; (with_reducible show wpAny _ _ (subscriptTail _ _ (Value.ref _) (Value.int _ _)) _ _ _); k_dflt (refine' item_led ?N ?m ?a ?b ?x ?_; (case N => k_asm); (case m => k_mem); (case a => decide); (case b => decide); (case x => exact rfl)))
  k_with "eval Name" => (k_here; (with_reducible show wpAny _ _ (eval (Expr.Name _ _) (compEnvC _ _ _ _)) _ _ _); k_dflt (first | (refine' lcf_cell ?N ?c ?m ?d ?_ ?a ?b; (case b => exact rfl); (case a => exact rfl); (case N => k_asm); (case c => exact rfl); (case m => k_mem); (case d => k_asm)) | (refine' LCgL.ld_own ?N ?m ?h ?x ?_ ?a ?b; (case b => exact rfl); (case a => exact rfl); (case N => k_asm); (case x => with_reducible assumption); (case m => k_mem); (case h => with_reducible assumption))))
  delta Ctr PG lo; k_fill
  intro mean mg mb dp un gd cn cs a ccd cl outer A₀ base h₀ L m s Q E B F X N T hk hd hu hret
  have NA := (news_one (N _ hm) (news_nil (h₀ := h₀) (L := L) (h := s.heap)))
  refine wpAny_call ?_
  k_dflt (refine' enterM ?k1 ?k2 ?k3 ?kM ?k4 ?k5 ?kA ?kF ?kK ?k6 ?k7 ?k8 ?k9 ?kB ?_ ?c2 ?c3 ?c4 ?c5; (case kA => exact rfl); (case kF => exact rfl); (case kK => assumption); (case k1 => k_asm); (case k2 => k_asm); (case k3 => k_asm); (case kM => exact N); (case k4 => exact NA); (case k5 => k_asm); (case k6 => k_is); (case k7 => k_is); (case k8 => ktr_room); (case k9 => first | exact BindsTo.of_eq rfl | exact binds_K (by k_in) rfl (by k_is) rfl rfl rfl); (case c5 => decide); (case kB => exact locs rfl); (case c2 => exact rfl); (case c3 => exact rfl); (case c4 => exact rfl); k_whole; intro g' L' h' G' FG' F' N' B' X' T' l1; (try k_lt l1); (try dsimp only); (try k_lift B'); (try k_fold))
  k_steps
  exact hret _ _ _ _ (by k_asm) (news_add (by assumption) (by assumption)) (new_ne (by assumption) (by assumption) (by k_all))
  k_with_none
set_option maxHeartbeats 0 in
theorem c_changed2 (w : World) (lr nr : Nat) (b0 b1 b2 b3 : Bool) (t : Tok) (news : List (Addr × Obj)) (hm : (lr, listOf [.bool b0, .bool b1, .bool b2, .bool b3].toArray nr) ∈ news) : Ctr w 5 150 168 [.ref lr, .int 2 t] news (RetNew (listOf [.bool (b0), .bool (b1), .bool (!b2), .bool (b3)].toArray) news) := by
  k_with "LeaveK" => (k_dflt (refine' leaveM ?hM ?hN ?G ?k1 ?k2 ?sub ?_; (case G => assumption); (case hM => assumption); (case hN => assumption); (case k1 => k_asm); (case k2 => k_asm); (case sub => lcg_sub)); intro kF kN kM; (try dsimp only))
  k_with "CompSrcT" => (k_here; k_dflt (first | (refine LCt.CompSrcT.range (n := 4) (by rfl) (by k_asm) (by k_asm) (by assumption) (by first | decide | rfl) (by first | rfl | decide) (by first | size_fits | exact Nat.le_of_ble_eq_true rfl) ?_; intro g') | (refine LCt.CompSrcT.range (n := 3) (by rfl) (by k_asm) (by k_asm) (by assumption) (by first | decide | rfl) (by first | rfl | decide) (by first | size_fits | exact Nat.le_of_ble_eq_true rfl) ?_; intro g') | (refine LCt.CompSrcT.range (n := 2) (by rfl) (by k_asm) (by k_asm) (by assumption) (by first | decide | rfl) (by first | rfl | decide) (by first | size_fits | exact Nat.le_of_ble_eq_true rfl) ?_; intro g') | (refine LCt.CompSrcT.range (n := 1) (by rfl) (by k_asm) (by k_asm) (by assumption) (by first | decide | rfl) (by first | rfl | decide) (by first | size_fits | exact Nat.le_of_ble_eq_true rfl) ?_; intro g') | (refine LCt.CompSrcT.range (n := 0) (by rfl) (by k_asm) (by k_asm) (by assumption) (by first | decide | rfl) (by first | rfl | decide) (by first | size_fits | exact Nat.le_of_ble_eq_true rfl) ?_; intro g')))
  k_with "CompRestT" => (refine stop_out ?_)
  k_with "TurnT" => (refine TurnT.mk (by first | exact fun _ h => h | lcg_sub) ?_ (by first | exact StrIs.mk | exact IntIs.mk (by first | rfl | decide | omega)); (try dsimp only); first | assumption | (with_unfolding_all exact decide_eq_true (by assumption)) | (simp_all; done))
  k_with "TurnF" => (refine TurnF.mk (by first | exact fun _ h => h | lcg_sub) ?_; (try dsimp only); first | assumption | (with_unfolding_all exact decide_eq_false (by assumption)) | (simp_all; done))
  k_with "eval ListComp" => (k_here; (with_reducible show wpAny _ _ (eval (Expr.ListComp _ _ _ _) _) _ _ _); first | (lct_look; lcg_calm; k_dflt (refine LCt.ListComp_T (F₀ := by k_asm) (by with_unfolding_all rfl) (by decide) (by rfl) (by decide) (by rfl) ?_); k_dflt lct_toSrc) | (lcf_look; lcg_calm; k_dflt (refine LCg.ListComp_U (F₀ := by k_asm) (by with_unfolding_all rfl) (by decide) (by rfl) (by decide) (by rfl) ?_); k_dflt lcg_toSrc) | (lcg_look; lcg_calm; k_dflt (refine LCg.ListComp_U (F₀ := by k_asm) (by rfl) (by decide) (by rfl) (by decide) (by rfl) ?_); k_dflt lcg_toSrc))
  k_with "binaryOp Mult ref int" => (k_here; (with_reducible show wpAny _ _ (binaryOp Operator.Mult (Value.ref _) (Value.int _ _)) _ _ _); k_dflt (refine' KMa.mul ?F ?N ?l ?lo ?hi ?z ?e ?_; (case F => k_asm); (case N => k_asm); (case l => is_list); (case lo => first | omega | decide); (case hi => first | omega | decide); (case z => (simp only [List.length_cons, List.length_nil]; decide)); (case e => (simp only [Int.sub_zero, Int.sub_self, Int.reduceSub, Int.reduceToNat, Int.toNat_zero, List.replicate_succ, List.replicate_zero, List.flatten_cons, List.flatten_nil, List.cons_append, List.nil_append, List.append_nil]; first | done | exact rfl)); k_whole); intro D' h' F' N' l1; (try k_lt l1); (try k_sweep))
  k_with "CompRest" => (refine stop_out ?_)
  k_with "CompEnd" => k_dflt (first | (refine LCg.CompEnd.intro (by assumption) (by assumption) _ (fun _ h => h) (by assumption) (by lcg_src) ?_) | (refine LCg.CompEnd.intro (by assumption) (by assumption) _ (fun _ h => List.Mem.tail _ h) (by assumption) (by lcg_src) ?_))
  k_with "TurnV" => (refine TurnV.mk (fun _ h => h) (by first | exact StrIs.mk | exact IntIs.mk (by first | rfl | decide | omega) | rfl))
  k_with "FinE" => ((unfold LCg.FinE); intro D' h' tk' F' N' o1'; (replace o1' := off1H o1'); (try simp only [List.nil_append, List.cons_append] at N'); (try simp only [List.nil_append, List.cons_append] at o1'); (try dsimp only))
  k_with "FinA" => ((unfold LCg.FinA); intro D' h' tk' F' N' o1'; (replace o1' := off1H o1'); (try simp only [List.nil_append, List.cons_append] at N'); (try simp only [List.nil_append, List.cons_append] at o1'); (try dsimp only))
  k_with "subscriptTail Name Name ref int" => (k_here; (with_reducible show wpAny _ _ (subscriptTail _ _ (Value.ref _) (Value.int _ _)) _ _ _); k_dflt (refine' item_led ?N ?m ?a ?b ?x ?_; (case N => k_asm); (case m => k_mem); (case a => decide); (case b => decide); (case x => exact rfl)))
  k_with "subscriptTail Name Constant ref int" => (k_here; (with_reducible show wpAny _ _ (subscriptTail _ _ (Value.ref _) (Value.int _ _)) _ _ _); k_dflt (refine' item_led ?N ?m ?a ?b ?x ?_; (case N => k_asm); (case m => k_mem); (case a => decide); (case b => decide); (case x => exact rfl)))
  k_with "subscriptTail Name BinOp ref int" => (k_here; (with_reducible show wpAny _ _ (subscriptTail _ _ (Value.ref _) (Value.int _ _)) _ _ _); k_dflt (refine' item_led ?N ?m ?a ?b ?x ?_; (case N => k_asm); (case m => k_mem); (case a => decide); (case b => decide); (case x => exact rfl)))
  k_with "eval Name" => (k_here; (with_reducible show wpAny _ _ (eval (Expr.Name _ _) (compEnvC _ _ _ _)) _ _ _); k_dflt (first | (refine' lcf_cell ?N ?c ?m ?d ?_ ?a ?b; (case b => exact rfl); (case a => exact rfl); (case N => k_asm); (case c => exact rfl); (case m => k_mem); (case d => k_asm)) | (refine' LCgL.ld_own ?N ?m ?h ?x ?_ ?a ?b; (case b => exact rfl); (case a => exact rfl); (case N => k_asm); (case x => with_reducible assumption); (case m => k_mem); (case h => with_reducible assumption))))
  delta Ctr PG lo; k_fill
  intro mean mg mb dp un gd cn cs a ccd cl outer A₀ base h₀ L m s Q E B F X N T hk hd hu hret
  have NA := (news_one (N _ hm) (news_nil (h₀ := h₀) (L := L) (h := s.heap)))
  refine wpAny_call ?_
  k_dflt (refine' enterM ?k1 ?k2 ?k3 ?kM ?k4 ?k5 ?kA ?kF ?kK ?k6 ?k7 ?k8 ?k9 ?kB ?_ ?c2 ?c3 ?c4 ?c5; (case kA => exact rfl); (case kF => exact rfl); (case kK => assumption); (case k1 => k_asm); (case k2 => k_asm); (case k3 => k_asm); (case kM => exact N); (case k4 => exact NA); (case k5 => k_asm); (case k6 => k_is); (case k7 => k_is); (case k8 => ktr_room); (case k9 => first | exact BindsTo.of_eq rfl | exact binds_K (by k_in) rfl (by k_is) rfl rfl rfl); (case c5 => decide); (case kB => exact locs rfl); (case c2 => exact rfl); (case c3 => exact rfl); (case c4 => exact rfl); k_whole; intro g' L' h' G' FG' F' N' B' X' T' l1; (try k_lt l1); (try dsimp only); (try k_lift B'); (try k_fold))
  k_steps
  exact hret _ _ _ _ (by k_asm) (news_add (by assumption) (by assumption)) (new_ne (by assumption) (by assumption) (by k_all))
  k_with_none
set_option maxHeartbeats 0 in
theorem c_changed3 (w : World) (lr nr : Nat) (b0 b1 b2 b3 : Bool) (t : Tok) (news : List (Addr × Obj)) (hm : (lr, listOf [.bool b0, .bool b1, .bool b2, .bool b3].toArray nr) ∈ news) : Ctr w 5 150 168 [.ref lr, .int 3 t] news (RetNew (listOf [.bool (b0), .bool (b1), .bool (b2), .bool (!b3)].toArray) news) := by
  k_with "LeaveK" => (k_dflt (refine' leaveM ?hM ?hN ?G ?k1 ?k2 ?sub ?_; (case G => assumption); (case hM => assumption); (case hN => assumption); (case k1 => k_asm); (case k2 => k_asm); (case sub => lcg_sub)); intro kF kN kM; (try dsimp only))
  k_with "CompSrcT" => (k_here; k_dflt (first | (refine LCt.CompSrcT.range (n := 4) (by rfl) (by k_asm) (by k_asm) (by assumption) (by first | decide | rfl) (by first | rfl | decide) (by first | size_fits | exact Nat.le_of_ble_eq_true rfl) ?_; intro g') | (refine LCt.CompSrcT.range (n := 3) (by rfl) (by k_asm) (by k_asm) (by assumption) (by first | decide | rfl) (by first | rfl | decide) (by first | size_fits | exact Nat.le_of_ble_eq_true rfl) ?_; intro g') | (refine LCt.CompSrcT.range (n := 2) (by rfl) (by k_asm) (by k_asm) (by assumption) (by first | decide | rfl) (by first | rfl | decide) (by first | size_fits | exact Nat.le_of_ble_eq_true rfl) ?_; intro g') | (refine LCt.CompSrcT.range (n := 1) (by rfl) (by k_asm) (by k_asm) (by assumption) (by first | decide | rfl) (by first | rfl | decide) (by first | size_fits | exact Nat.le_of_ble_eq_true rfl) ?_; intro g') | (refine LCt.CompSrcT.range (n := 0) (by rfl) (by k_asm) (by k_asm) (by assumption) (by first | decide | rfl) (by first | rfl | decide) (by first | size_fits | exact Nat.le_of_ble_eq_true rfl) ?_; intro g')))
  k_with "CompRestT" => (refine stop_out ?_)
  k_with "TurnT" => (refine TurnT.mk (by first | exact fun _ h => h | lcg_sub) ?_ (by first | exact StrIs.mk | exact IntIs.mk (by first | rfl | decide | omega)); (try dsimp only); first | assumption | (with_unfolding_all exact decide_eq_true (by assumption)) | (simp_all; done))
  k_with "TurnF" => (refine TurnF.mk (by first | exact fun _ h => h | lcg_sub) ?_; (try dsimp only); first | assumption | (with_unfolding_all exact decide_eq_false (by assumption)) | (simp_all; done))
  k_with "eval ListComp" => (k_here; (with_reducible show wpAny _ _ (eval (Expr.ListComp _ _ _ _) _) _ _ _); first | (lct_look; lcg_calm; k_dflt (refine LCt.ListComp_T (F₀ := by k_asm) (by with_unfolding_all rfl) (by decide) (by rfl) (by decide) (by rfl) ?_); k_dflt lct_toSrc) | (lcf_look; lcg_calm; k_dflt (refine LCg.ListComp_U (F₀ := by k_asm) (by with_unfolding_all rfl) (by decide) (by rfl) (by decide) (by rfl) ?_); k_dflt lcg_toSrc) | (lcg_look; lcg_calm; k_dflt (refine LCg.ListComp_U (F₀ := by k_asm) (by rfl) (by decide) (by rfl) (by decide) (by rfl) ?_); k_dflt lcg_toSrc))
  k_with "binaryOp Mult ref int" => (k_here; (with_reducible show wpAny _ _ (binaryOp Operator.Mult (Value.ref _) (Value.int _ _)) _ _ _); k_dflt (refine' KMa.mul ?F ?N ?l ?lo ?hi ?z ?e ?_; (case F => k_asm); (case N => k_asm); (case l => is_list); (case lo => first | omega | decide); (case hi => first | omega | decide); (case z => (simp only [List.length_cons, List.length_nil]; decide)); (case e => (simp only [Int.sub_zero, Int.sub_self, Int.reduceSub, Int.reduceToNat, Int.toNat_zero, List.replicate_succ, List.replicate_zero, List.flatten_cons, List.flatten_nil, List.cons_append, List.nil_append, List.append_nil]; first | done | exact rfl)); k_whole); intro D' h' F' N' l1; (try k_lt l1); (try k_sweep))
  k_with "CompRest" => (refine stop_out ?_)
  k_with "CompEnd" => k_dflt (first | (refine LCg.CompEnd.intro (by assumption) (by assumption) _ (fun _ h => h) (by assumption) (by lcg_src) ?_) | (refine LCg.CompEnd.intro (by assumption) (by assumption) _ (fun _ h => List.Mem.tail _ h) (by assumption) (by lcg_src) ?_))
  k_with "TurnV" => (refine TurnV.mk (fun _ h => h) (by first | exact StrIs.mk | exact IntIs.mk (by first | rfl | decide | omega) | rfl))
  k_with "FinE" => ((unfold LCg.FinE); intro D' h' tk' F' N' o1'; (replace o1' := off1H o1'); (try simp only [List.nil_append, List.cons_append] at N'); (try simp only [List.nil_append, List.cons_append] at o1'); (try dsimp only))
  k_with "FinA" => ((unfold LCg.FinA); intro D' h' tk' F' N' o1'; (replace o1' := off1H o1'); (try simp only [List.nil_append, List.cons_append] at N'); (try simp only [List.nil_append, List.cons_append] at o1'); (try dsimp only))
  k_with "subscriptTail Name Name ref int" => (k_here; (with_reducible show wpAny _ _ (subscriptTail _ _ (Value.ref _) (Value.int _ _)) _ _ _); k_dflt (refine' item_led ?N ?m ?a ?b ?x ?_; (case N => k_asm); (case m => k_mem); (case a => decide); (case b => decide); (case x => exact rfl)))
  k_with "subscriptTail Name Constant ref int" => (k_here; (with_reducible show wpAny _ _ (subscriptTail _ _ (Value.ref _) (Value.int _ _)) _ _ _); k_dflt (refine' item_led ?N ?m ?a ?b ?x ?_; (case N => k_asm); (case m => k_mem); (case a => decide); (case b => decide); (case x => exact rfl)))
  k_with "subscriptTail Name BinOp ref int" => (k_here; (with_reducible show wpAny _ _ (subscriptTail _ _ (Value.ref _) (Value.int _ _)) _ _ _); k_dflt (refine' item_led ?N ?m ?a ?b ?x ?_; (case N => k_asm); (case m => k_mem); (case a => decide); (case b => decide); (case x => exact rfl)))
  k_with "eval Name" => (k_here; (with_reducible show wpAny _ _ (eval (Expr.Name _ _) (compEnvC _ _ _ _)) _ _ _); k_dflt (first | (refine' lcf_cell ?N ?c ?m ?d ?_ ?a ?b; (case b => exact rfl); (case a => exact rfl); (case N => k_asm); (case c => exact rfl); (case m => k_mem); (case d => k_asm)) | (refine' LCgL.ld_own ?N ?m ?h ?x ?_ ?a ?b; (case b => exact rfl); (case a => exact rfl); (case N => k_asm); (case x => with_reducible assumption); (case m => k_mem); (case h => with_reducible assumption))))
  delta Ctr PG lo; k_fill
  intro mean mg mb dp un gd cn cs a ccd cl outer A₀ base h₀ L m s Q E B F X N T hk hd hu hret
  have NA := (news_one (N _ hm) (news_nil (h₀ := h₀) (L := L) (h := s.heap)))
  refine wpAny_call ?_
  k_dflt (refine' enterM ?k1 ?k2 ?k3 ?kM ?k4 ?k5 ?kA ?kF ?kK ?k6 ?k7 ?k8 ?k9 ?kB ?_ ?c2 ?c3 ?c4 ?c5; (case kA => exact rfl); (case kF => exact rfl); (case kK => assumption); (case k1 => k_asm); (case k2 => k_asm); (case k3 => k_asm); (case kM => exact N); (case k4 => exact NA); (case k5 => k_asm); (case k6 => k_is); (case k7 => k_is); (case k8 => ktr_room); (case k9 => first | exact BindsTo.of_eq rfl | exact binds_K (by k_in) rfl (by k_is) rfl rfl rfl); (case c5 => decide); (case kB => exact locs rfl); (case c2 => exact rfl); (case c3 => exact rfl); (case c4 => exact rfl); k_whole; intro g' L' h' G' FG' F' N' B' X' T' l1; (try k_lt l1); (try dsimp only); (try k_lift B'); (try k_fold))
  k_steps
  exact hret _ _ _ _ (by k_asm) (news_add (by assumption) (by assumption)) (new_ne (by assumption) (by assumption) (by k_all))
  k_with_none
end

section
set_option maxHeartbeats 0 in
theorem c_iseof (w : World) (x : Int) (t : Tok) (news : List (Addr × Obj)) : Ctr w 2 20 113 [.int x t] news (RetVal (fun _ => .bool (decide (x = 0))) news) := by
  k_with "LeaveK" => (k_dflt (refine' leaveM ?hM ?hN ?G ?k1 ?k2 ?sub ?_; (case G => assumption); (case hM => assumption); (case hN => assumption); (case k1 => k_asm); (case k2 => k_asm); (case sub => lcg_sub)); intro kF kN kM; (try dsimp only))
  k_with "CompSrcT" => (k_here; k_dflt (first | (refine LCt.CompSrcT.range (n := 4) (by rfl) (by k_asm) (by k_asm) (by assumption) (by first | decide | rfl) (by first | rfl | decide) (by first | size_fits | exact Nat.le_of_ble_eq_true rfl) ?_; intro g') | (refine LCt.CompSrcT.range (n := 3) (by rfl) (by k_asm) (by k_asm) (by assumption) (by first | decide | rfl) (by first | rfl | decide) (by first | size_fits | exact Nat.le_of_ble_eq_true rfl) ?_; intro g') | (refine LCt.CompSrcT.range (n := 2) (by rfl) (by k_asm) (by k_asm) (by assumption) (by first | decide | rfl) (by first | rfl | decide) (by first | size_fits | exact Nat.le_of_ble_eq_true rfl) ?_; intro g') | (refine LCt.CompSrcT.range (n := 1) (by rfl) (by k_asm) (by k_asm) (by assumption) (by first | decide | rfl) (by first | rfl | decide) (by first | size_fits | exact Nat.le_of_ble_eq_true rfl) ?_; intro g') | (refine LCt.CompSrcT.range (n := 0) (by rfl) (by k_asm) (by k_asm) (by assumption) (by first | decide | rfl) (by first | rfl | decide) (by first | size_fits | exact Nat.le_of_ble_eq_true rfl) ?_; intro g')))
  k_with "CompRestT" => (refine stop_out ?_)
  k_with "TurnT" => (refine TurnT.mk (by first | exact fun _ h => h | lcg_sub) ?_ (by first | exact StrIs.mk | exact IntIs.mk (by first | rfl | decide | omega)); (try dsimp only); first | assumption | (with_unfolding_all exact decide_eq_true (by assumption)) | (simp_all; done))
  k_with "TurnF" => (refine TurnF.mk (by first | exact fun _ h => h | lcg_sub) ?_; (try dsimp only); first | assumption | (with_unfolding_all exact decide_eq_false (by assumption)) | (simp_all; done))
  k_with "eval ListComp" => (k_here; (with_reducible show wpAny _ _ (eval (Expr.ListComp _ _ _ _) _) _ _ _); first | (lct_look; lcg_calm; k_dflt (refine LCt.ListComp_T (F₀ := by k_asm) (by with_unfolding_all rfl) (by decide) (by rfl) (by decide) (by rfl) ?_); k_dflt lct_toSrc) | (lcf_look; lcg_calm; k_dflt (refine LCg.ListComp_U (F₀ := by k_asm) (by with_unfolding_all rfl) (by decide) (by rfl) (by decide) (by rfl) ?_); k_dflt lcg_toSrc) | (lcg_look; lcg_calm; k_dflt (refine LCg.ListComp_U (F₀ := by k_asm) (by rfl) (by decide) (by rfl) (by decide) (by rfl) ?_); k_dflt lcg_toSrc))
  k_with "binaryOp Mult ref int" => (k_here; (with_reducible show wpAny _ _ (binaryOp Operator.Mult (Value.ref _) (Value.int _ _)) _ _ _); k_dflt (refine' KMa.mul ?F ?N ?l ?lo ?hi ?z ?e ?_; (case F => k_asm); (case N => k_asm); (case l => is_list); (case lo => first | omega | decide); (case hi => first | omega | decide); (case z => (simp only [List.length_cons, List.length_nil]; decide)); (case e => (simp only [Int.sub_zero, Int.sub_self, Int.reduceSub, Int.reduceToNat, Int.toNat_zero, List.replicate_succ, List.replicate_zero, List.flatten_cons, List.flatten_nil, List.cons_append, List.nil_append, List.append_nil]; first | done | exact rfl)); k_whole); intro D' h' F' N' l1; (try k_lt l1); (try k_sweep))
  k_with "CompRest" => (refine stop_out ?_)
  k_with "CompEnd" => k_dflt (first | (refine LCg.CompEnd.intro (by assumption) (by assumption) _ (fun _ h => h) (by assumption) (by lcg_src) ?_) | (refine LCg.CompEnd.intro (by assumption) (by assumption) _ (fun _ h => List.Mem.tail _ h) (by assumption) (by lcg_src) ?_))
  k_with "TurnV" => (refine TurnV.mk (fun _ h => h) (by first | exact StrIs.mk | exact IntIs.mk (by first | rfl | decide | omega) | rfl))
  k_with "FinE" => ((unfold LCg.FinE); intro D' h' tk' F' N' o1'; (replace o1' := off1H o1'); (try simp only [List.nil_append, List.cons_append] at N'); (try simp only [List.nil_append, List.cons_append] at o1'); (try dsimp only))
  k_with "FinA" => ((unfold LCg.FinA); intro D' h' tk' F' N' o1'; (replace o1' := off1H o1'); (try simp only [List.nil_append, List.cons_append] at N'); (try simp only [List.nil_append, List.cons_append] at o1'); (try dsimp only))
  k_with "subscriptTail Name Name ref int" => (k_here; (with_reducible show wpAny _ _ (subscriptTail _ _ (Value.ref _) (Value.int _ _)) _ _ _); k_dflt (refine' item_led ?N ?m ?a ?b ?x ?_; (case N => k_asm); (case m => k_mem); (case a => decide); (case b => decide); (case x => exact rfl)))
  k_with "subscriptTail Name Constant ref int" => (k_here; (with_reducible show wpAny _ _ (subscriptTail _ _ (Value.ref _) (Value.int _ _)) _ _ _); k_dflt (refine' item_led ?N ?m ?a ?b ?x ?_; (case N => k_asm); (case m => k_mem); (case a => decide); (case b => decide); (case x => exact rfl)))
  k_with "subscriptTail Name BinOp ref int" => (k_here; (with_reducible show wpAny _ _ (subscriptTail _ _ (Value.ref _) (Value.int _ _)) _ _ _); k_dflt (refine' item_led ?N ?m ?a ?b ?x ?_; (case N => k_asm); (case m => k_mem); (case a => decide); (case b => decide); (case x => exact rfl)))
  k_with "eval Name" => (k_here; (with_reducible show wpAny _ _ (eval (Expr.Name _ _) (compEnvC _ _ _ _)) _ _ _); k_dflt (first | (refine' lcf_cell ?N ?c ?m ?d ?_ ?a ?b; (case b => exact rfl); (case a => exact rfl); (case N => k_asm); (case c => exact rfl); (case m => k_mem); (case d => k_asm)) | (refine' LCgL.ld_own ?N ?m ?h ?x ?_ ?a ?b; (case b => exact rfl); (case a => exact rfl); (case N => k_asm); (case x => with_reducible assumption); (case m => k_mem); (case h => with_reducible assumption))))
  delta Ctr PG lo; k_fill
  intro mean mg mb dp un gd cn cs a ccd cl outer A₀ base h₀ L m s Q E B F X N T hk hd hu hret
  have NA := (news_nil (h₀ := h₀) (L := L) (h := s.heap))
  refine wpAny_call ?_
  k_dflt (refine' enterM ?k1 ?k2 ?k3 ?kM ?k4 ?k5 ?kA ?kF ?kK ?k6 ?k7 ?k8 ?k9 ?kB ?_ ?c2 ?c3 ?c4 ?c5; (case kA => exact rfl); (case kF => exact rfl); (case kK => assumption); (case k1 => k_asm); (case k2 => k_asm); (case k3 => k_asm); (case kM => exact N); (case k4 => exact NA); (case k5 => k_asm); (case k6 => k_is); (case k7 => k_is); (case k8 => ktr_room); (case k9 => first | exact BindsTo.of_eq rfl | exact binds_K (by k_in) rfl (by k_is) rfl rfl rfl); (case c5 => decide); (case kB => exact locs rfl); (case c2 => exact rfl); (case c3 => exact rfl); (case c4 => exact rfl); k_whole; intro g' L' h' G' FG' F' N' B' X' T' l1; (try k_lt l1); (try dsimp only); (try k_lift B'); (try k_fold))
  k_steps
  exact hret 0 _ _ (by k_asm) (by k_asm)
  k_with_none
set_option maxHeartbeats 0 in
theorem c_lev0 (w : World) (x : Str) (ta tb : Tok) (mc : Int) (tm : Tok) (news : List (Addr × Obj)) : Ctr w 20 150 127 [.str x ta, .str x tb, .int mc tm] news (RetVal (fun t => .int 0 t) news) := by
  k_with "LeaveK" => (k_dflt (refine' leaveM ?hM ?hN ?G ?k1 ?k2 ?sub ?_; (case G => assumption); (case hM => assumption); (case hN => assumption); (case k1 => k_asm); (case k2 => k_asm); (case sub => lcg_sub)); intro kF kN kM; (try dsimp only))
  k_with "CompSrcT" => (k_here; k_dflt (first | (refine LCt.CompSrcT.range (n := 4) (by rfl) (by k_asm) (by k_asm) (by assumption) (by first | decide | rfl) (by first | rfl | decide) (by first | size_fits | exact Nat.le_of_ble_eq_true rfl) ?_; intro g') | (refine LCt.CompSrcT.range (n := 3) (by rfl) (by k_asm) (by k_asm) (by assumption) (by first | decide | rfl) (by first | rfl | decide) (by first | size_fits | exact Nat.le_of_ble_eq_true rfl) ?_; intro g') | (refine LCt.CompSrcT.range (n := 2) (by rfl) (by k_asm) (by k_asm) (by assumption) (by first | decide | rfl) (by first | rfl | decide) (by first | size_fits | exact Nat.le_of_ble_eq_true rfl) ?_; intro g') | (refine LCt.CompSrcT.range (n := 1) (by rfl) (by k_asm) (by k_asm) (by assumption) (by first | decide | rfl) (by first | rfl | decide) (by first | size_fits | exact Nat.le_of_ble_eq_true rfl) ?_; intro g') | (refine LCt.CompSrcT.range (n := 0) (by rfl) (by k_asm) (by k_asm) (by assumption) (by first | decide | rfl) (by first | rfl | decide) (by first | size_fits | exact Nat.le_of_ble_eq_true rfl) ?_; intro g')))
  k_with "CompRestT" => (refine stop_out ?_)
  k_with "TurnT" => (refine TurnT.mk (by first | exact fun _ h => h | lcg_sub) ?_ (by first | exact StrIs.mk | exact IntIs.mk (by first | rfl | decide | omega)); (try dsimp only); first | assumption | (with_unfolding_all exact decide_eq_true (by assumption)) | (simp_all; done))
  k_with "TurnF" => (refine TurnF.mk (by first | exact fun _ h => h | lcg_sub) ?_; (try dsimp only); first | assumption | (with_unfolding_all exact decide_eq_false (by assumption)) | (simp_all; done))
  k_with "eval ListComp" => (k_here; (with_reducible show wpAny _ _ (eval (Expr.ListComp _ _ _ _) _) _ _ _); first | (lct_look; lcg_calm; k_dflt (refine LCt.ListComp_T (F₀ := by k_asm) (by with_unfolding_all rfl) (by decide) (by rfl) (by decide) (by rfl) ?_); k_dflt lct_toSrc) | (lcf_look; lcg_calm; k_dflt (refine LCg.ListComp_U (F₀ := by k_asm) (by with_unfolding_all rfl) (by decide) (by rfl) (by decide) (by rfl) ?_); k_dflt lcg_toSrc) | (lcg_look; lcg_calm; k_dflt (refine LCg.ListComp_U (F₀ := by k_asm) (by rfl) (by decide) (by rfl) (by decide) (by rfl) ?_); k_dflt lcg_toSrc))
  k_with "binaryOp Mult ref int" => (k_here; (with_reducible show wpAny _ _ (binaryOp Operator.Mult (Value.ref _) (Value.int _ _)) _ _ _); k_dflt (refine' KMa.mul ?F ?N ?l ?lo ?hi ?z ?e ?_; (case F => k_asm); (case N => k_asm); (case l => is_list); (case lo => first | omega | decide); (case hi => first | omega | decide); (case z => (simp only [List.length_cons, List.length_nil]; decide)); (case e => (simp only [Int.sub_zero, Int.sub_self, Int.reduceSub, Int.reduceToNat, Int.toNat_zero, List.replicate_succ, List.replicate_zero, List.flatten_cons, List.flatten_nil, List.cons_append, List.nil_append, List.append_nil]; first | done | exact rfl)); k_whole); intro D' h' F' N' l1; (try k_lt l1); (try k_sweep))
  k_with "CompRest" => (refine stop_out ?_)
  k_with "CompEnd" => k_dflt (first | (refine LCg.CompEnd.intro (by assumption) (by assumption) _ (fun _ h => h) (by assumption) (by lcg_src) ?_) | (refine LCg.CompEnd.intro (by assumption) (by assumption) _ (fun _ h => List.Mem.tail _ h) (by assumption) (by lcg_src) ?_))
  k_with "TurnV" => (refine TurnV.mk (fun _ h => h) (by first | exact StrIs.mk | exact IntIs.mk (by first | rfl | decide | omega) | rfl))
  k_with "FinE" => ((unfold LCg.FinE); intro D' h' tk' F' N' o1'; (replace o1' := off1H o1'); (try simp only [List.nil_append, List.cons_append] at N'); (try simp only [List.nil_append, List.cons_append] at o1'); (try dsimp only))
  k_with "FinA" => ((unfold LCg.FinA); intro D' h' tk' F' N' o1'; (replace o1' := off1H o1'); (try simp only [List.nil_append, List.cons_append] at N'); (try simp only [List.nil_append, List.cons_append] at o1'); (try dsimp only))
  k_with "subscriptTail Name Name ref int" => (k_here; (with_reducible show wpAny _ _ (subscriptTail _ _ (Value.ref _) (Value.int _ _)) _ _ _); k_dflt (refine' item_led ?N ?m ?a ?b ?x ?_; (case N => k_asm); (case m => k_mem); (case a => decide); (case b => decide); (case x => exact rfl)))
  k_with "subscriptTail Name Constant ref int" => (k_here; (with_reducible show wpAny _ _ (subscriptTail _ _ (Value.ref _) (Value.int _ _)) _ _ _); k_dflt (refine' item_led ?N ?m ?a ?b ?x ?_; (case N => k_asm); (case m => k_mem); (case a => decide); (case b => decide); (case x => exact rfl)))
  k_with "subscriptTail Name BinOp ref int" => (k_here; (with_reducible show wpAny _ _ (subscriptTail _ _ (Value.ref _) (Value.int _ _)) _ _ _); k_dflt (refine' item_led ?N ?m ?a ?b ?x ?_; (case N => k_asm); (case m => k_mem); (case a => decide); (case b => decide); (case x => exact rfl)))
  k_with "eval Name" => (k_here; (with_reducible show wpAny _ _ (eval (Expr.Name _ _) (compEnvC _ _ _ _)) _ _ _); k_dflt (first | (refine' lcf_cell ?N ?c ?m ?d ?_ ?a ?b; (case b => exact rfl); (case a => exact rfl); (case N => k_asm); (case c => exact rfl); (case m => k_mem); (case d => k_asm)) | (refine' LCgL.ld_own ?N ?m ?h ?x ?_ ?a ?b; (case b => exact rfl); (case a => exact rfl); (case N => k_asm); (case x => with_reducible assumption); (case m => k_mem); (case h => with_reducible assumption))))
  delta Ctr PG lo; k_fill
  intro mean mg mb dp un gd cn cs a ccd cl outer A₀ base h₀ L m s Q E B F X N T hk hd hu hret
  have NA := (news_nil (h₀ := h₀) (L := L) (h := s.heap))
  refine wpAny_call ?_
  k_dflt (refine' enterM ?k1 ?k2 ?k3 ?kM ?k4 ?k5 ?kA ?kF ?kK ?k6 ?k7 ?k8 ?k9 ?kB ?_ ?c2 ?c3 ?c4 ?c5; (case kA => exact rfl); (case kF => exact rfl); (case kK => assumption); (case k1 => k_asm); (case k2 => k_asm); (case k3 => k_asm); (case kM => exact N); (case k4 => exact NA); (case k5 => k_asm); (case k6 => k_is); (case k7 => k_is); (case k8 => ktr_room); (case k9 => first | exact BindsTo.of_eq rfl | exact binds_K (by k_in) rfl (by k_is) rfl rfl rfl); (case c5 => decide); (case kB => exact locs rfl); (case c2 => exact rfl); (case c3 => exact rfl); (case c4 => exact rfl); k_whole; intro g' L' h' G' FG' F' N' B' X' T' l1; (try k_lt l1); (try dsimp only); (try k_lift B'); (try k_fold))
  k_steps
  · exact hret _ _ _ (by k_asm) (by k_asm)
  all_goals (exfalso; rename (x == x) = false => hq; simp at hq)
  k_with_none
/-- the ring k changed -/
noncomputable def chg (i k : Int) (b : Bool) : Bool := if k = i then !b else b
theorem c_changedK (w : World) (lr nr : Nat) (k : Int) (h0 : 0 ≤ k) (h1 : k < 4) (b0 b1 b2 b3 : Bool) (t : Tok) (news : List (Addr × Obj)) (hm : (lr, listOf [.bool b0, .bool b1, .bool b2, .bool b3].toArray nr) ∈ news) :
    Ctr w 5 150 168 [.ref lr, .int k t] news (RetNew (listOf [.bool (chg 0 k b0), .bool (chg 1 k b1), .bool (chg 2 k b2), .bool (chg 3 k b3)].toArray) news) := by
  have : k = 0 ∨ k = 1 ∨ k = 2 ∨ k = 3 := by omega
  rcases this with rfl | rfl | rfl | rfl
  · exact c_changed0 w lr nr b0 b1 b2 b3 t news hm
  · exact c_changed1 w lr nr b0 b1 b2 b3 t news hm
  · exact c_changed2 w lr nr b0 b1 b2 b3 t news hm
  · exact c_changed3 w lr nr b0 b1 b2 b3 t news hm
end

section
open Sem (wp)
noncomputable abbrev NoE : Value → Shared → Prop := fun _ _ => False
section
variable {M : Model} {A : Around} {R : GenEnd} {Y : Protocol} {n : Nat} {s₀ : Shared} {c : Code} {fs : List Frame} {s : Shared} {env : Env} {α β : Type}
  {K : β → Sem Fin} {H : Value → Sem Fin} {gd : Bool → Bool} {lv : List Value → List Value}
theorem seg_bindw {m : Sem α} {f : α → Sem β} (h : wpAny M (A.over c fs) m (fun a s' => Seg M A R Y n s₀ c ((f a).wrap K H gd lv) fs s') NoE s) :
    Seg M A R Y n s₀ c ((m >>= f).wrap K H gd lv) fs s := by
  rw [Sem.bind_eq_wrap', Sem.wrap_wrap]
  exact seg_wrap (wpAny_mono h (fun _ _ x => x) fun _ _ x => x.elim)
theorem seg_wrapN {m : Sem β} (h : wpAny M (A.over c fs) m (fun a s' => Seg M A R Y n s₀ c (K a) fs s') NoE s) :
    Seg M A R Y n s₀ c (m.wrap K H gd lv) fs s := seg_wrap (wpAny_mono h (fun _ _ x => x) fun _ _ x => x.elim)
end
section
variable {M : Model} {A : Around} {R : GenEnd} {Y : Protocol} {n : Nat} {s₀ : Shared} {c : Code} {fs : List Frame} {s : Shared} {env : Env}
  {K : Flow → Sem Fin} {H : Value → Sem Fin} {gd : Bool → Bool} {lv : List Value → List Value}
theorem seg_If {test : Expr} {body orelse : List Stmt} {pos : Pos} (h : wpAny M (A.over c fs) (isTrue test env (eval test env)) (fun b s' =>
      if b = true then Seg M A R Y n s₀ c ((execs body env).wrap K H gd lv) fs s' else Seg M A R Y n s₀ c ((execs orelse env).wrap K H gd lv) fs s') NoE s) :
    Seg M A R Y n s₀ c ((exec (.If test body orelse pos) env).wrap K H gd lv) fs s := by
  show Seg M A R Y n s₀ c ((standAt pos >>= fun _ => isTrue test env (eval test env) >>= fun b => if b = true then execs body env else execs orelse env).wrap K H gd lv) fs s
  refine seg_bindw (wpAny_standAt (seg_bindw (wpAny_mono h (fun b s' hb => ?_) fun _ _ x => x)))
  cases b with
  | true => exact hb
  | false => exact hb
/-- the frame in which a for loop of the generator's body runs -/
noncomputable def forFr (K : Flow → Sem Fin) (H : Value → Sem Fin) (gd : Bool → Bool) (lv : List Value → List Value) (env : Env) (c : Code) (p : Pos) : Frame :=
  .ret (fun r => ((match r with | .ok f => (.pure f : Sem Flow) | .error e => .raise e).onRaise fun (x : Value) => do
        if (← field x 1) == Value.none then unsupported "frame.own-activation:exception-without-traceback"
        setFlight x env.frame).wrap K H gd lv) none (gd false) (lv []) c p []
theorem seg_For {target iter : Expr} {body orelse : List Stmt} {pos : Pos} (hs : ∀ x, foldedSetIterable iter env x = pure x)
    (h : wpAny M (A.over c fs) (eval iter env) (fun x s₁ => wpAny M (A.over c fs) (pyIter x) (fun it s₂ =>
      ∀ p, Seg M A R Y n s₀ (.forLoop target it body orelse env) (M.den (.forLoop target it body orelse env)) (forFr K H gd lv env c p :: fs) s₂) NoE s₁) NoE s) :
    Seg M A R Y n s₀ c ((exec (.For target iter body orelse pos) env).wrap K H gd lv) fs s := by
  rw [exec_For]
  refine seg_bindw (wpAny_standAt (seg_bindw (wpAny_mono h (fun x s₁ h₁ => ?_) fun _ _ x => x)))
  rw [hs x]
  refine seg_bindw (wpAny_pure (seg_bindw (wpAny_standAt (seg_bindw (wpAny_holding (wpAny_mono h₁ (fun it s₂ h₂ => ?_) fun _ _ x => x))))))
  exact seg_call h₂
end
section
variable {prog : Program} {w : World} {A : Around} {R : GenEnd} {Y : Protocol} {n : Nat} {s₀ : Shared} {fs : List Frame} {s : Shared} {env : Env}
/-- what the loop's body hands on, in a for loop of a generator -/
noncomputable def forK (c : Code) : Flow → Sem Fin := fun f => match f with
  | .next | .cont => .pure (.again c)
  | .brk => .pure (.done .next)
  | .ret v => .pure (.done (.ret v))
noncomputable def forH (env : Env) : Value → Sem Fin := fun e => (do noteFrame e env; theTreesLotGoes e : Sem Unit).wrap (fun _ => .raise e) .raise id id
theorem seg_forLoop {target : Expr} {it : Value} {body : List Stmt} {p : Pos} {K : Flow → Sem Fin} {H : Value → Sem Fin} {gd : Bool → Bool} {lv : List Value → List Value} {c : Code}
    (h : wpAny (model prog w) (A.over (.forLoop target it body [] env) (forFr K H gd lv env c p :: fs)) (pyNext it) (fun r s₁ => match r with
      | none => Seg (model prog w) A R Y n s₀ c (K .next) fs s₁
      | some v => wpAny (model prog w) (A.over (.forLoop target it body [] env) (forFr K H gd lv env c p :: fs)) (letOwnedTupleGo target it v) (fun _ s₂ =>
          wpAny (model prog w) (A.over (.forLoop target it body [] env) (forFr K H gd lv env c p :: fs)) (assign target env v) (fun _ s₃ =>
            Seg (model prog w) A R Y n s₀ (.forLoop target it body [] env) ((execs body env).wrap (forK (.forLoop target it body [] env)) (forH env) id id) (forFr K H gd lv env c p :: fs) s₃) NoE s₂) NoE s₁) NoE s) :
    Seg (model prog w) A R Y n s₀ (.forLoop target it body [] env) ((model prog w).den (.forLoop target it body [] env)) (forFr K H gd lv env c p :: fs) s := by
  show Seg _ A R Y n s₀ _ ((forTurn target it body [] env).onRaise (fun x => do noteFrame x env; theTreesLotGoes x)) _ s
  rw [Sem.onRaise_eq_wrap]
  unfold forTurn
  refine seg_bindw (wpAny_standAt (seg_bindw (wpAny_onRaise (wpAny_mono h (fun r s₁ h₁ => ?_) fun _ _ x => x.elim))))
  cases r with
  | none =>
    refine seg_again rfl ?_
    exact seg_leaf (.ok .next) h₁
  | some v =>
    refine seg_bindw (wpAny_mono h₁ (fun _ s₂ h₂ => seg_bindw (wpAny_mono h₂ (fun _ s₃ h₃ => ?_) fun _ _ x => x)) fun _ _ x => x)
    rw [Sem.bind_eq_wrap', Sem.wrap_wrap]
    rw [Sem.wrap_congr (execs body env) _ _ (K' := forK (.forLoop target it body [] env)) (H' := forH env) (fun f => by cases f <;> rfl)
        (fun e => by first | exact Sem.bind_eq_wrap _ _ | (show (do noteFrame e env; theTreesLotGoes e : Sem Unit).bind (fun _ => .raise e) = _; rw [Sem.bind_eq_wrap]; rfl))]
    exact h₃
/-- the body has ended: the next turn -/
theorem seg_turn {target : Expr} {it : Value} {body : List Stmt} (h : Seg (model prog w) A R Y n s₀ (.forLoop target it body [] env) ((model prog w).den (.forLoop target it body [] env)) fs s) :
    Seg (model prog w) A R Y n s₀ (.forLoop target it body [] env) (forK (.forLoop target it body [] env) .next) fs s := seg_again rfl h
end
end

section
open PySem.Spec PySem.Calls
theorem over_func (A : Around) (body : List Stmt) (env : Env) : A.over (.func body env) [] = A.deeper env := by
  obtain ⟨h, d, fr, gs, u⟩ := A
  cases fr <;> cases gs <;> rfl
theorem over_for (A : Around) (tgt : Expr) (it : Value) (lb b : List Stmt) (env : Env) (K : Flow → Sem Fin) (H : Value → Sem Fin) (gd : Bool → Bool) (lv : List Value → List Value) (p : Pos) :
    A.over (.forLoop tgt it lb [] env) [forFr K H gd lv env (.func b env) p] = A.deeper env := by
  obtain ⟨h, d, fr, gs, u⟩ := A
  cases h <;> cases fr <;> cases gs <;> rfl
/-- the heap below an address -/
noncomputable def low (h : Heap) (G : Addr) : Heap := { h with objs := h.objs.extract 0 G }
theorem low_get {h : Heap} {G b : Nat} (hb : b < G) : (low h G).get? b = h.get? b := by
  unfold low Heap.get?
  simp only [Array.getElem?_extract]
  by_cases c : b < h.objs.size
  · rw [if_pos (by omega)]; simp
  · rw [if_neg (by omega), Array.getElem?_eq_none (by omega)]
theorem low_none {h : Heap} {G b : Nat} (hb : G ≤ b) : (low h G).get? b = none := Heap.get?_none_of_le (by unfold low; simp only [Array.size_extract]; omega)
theorem low_of {h : Heap} {G b : Nat} {o : Obj} (e : (low h G).get? b = some o) : b < G ∧ h.get? b = some o := by
  by_cases c : b < G
  · exact ⟨c, (low_get c).symm.trans e⟩
  · rw [low_none (by omega)] at e; cases e
theorem low_size {h : Heap} {G : Nat} : (low h G).objs.size ≤ G := by unfold low; simp only [Array.size_extract]; omega
theorem stays_low {h₀ h : Heap} {G : Addr} (k : ∀ b o, h₀.get? b = some o → h.get? b = some o) (hs : h₀.objs.size ≤ G) : ∀ b o, h₀.get? b = some o → (low h G).get? b = some o := fun b o e => by
  rw [low_get (Nat.lt_of_lt_of_le (Heap.lt_size e) hs)]; exact k _ _ e
noncomputable def GenAt (P : List Stmt → Env → Prop) (K : Frag) (f L : Addr) : Prop := ∀ oc od name qual params body scope dV kV doc pm an cdv ct osl,
  K.lookup f = some ⟨oc, od, .func (fnOf name qual params body scope dV kV doc pm an cdv ct), osl⟩ → P body (envOf qual scope L f cdv)
theorem genAt_of {P : List Stmt → Env → Prop} {K : Frag} {f L : Addr} {oc od name qual params body scope dV kV doc pm an cdv ct osl}
    (ho : K.lookup f = some ⟨oc, od, .func (fnOf name qual params body scope dV kV doc pm an cdv ct), osl⟩) (h : P body (envOf qual scope L f cdv)) : GenAt P K f L := by
  intro oc' od' name' qual' params' body' scope' dV' kV' doc' pm' an' cdv' ct' osl' ho'
  have e := Option.some.inj (ho.symm.trans ho')
  unfold fnOf at e
  cases e
  exact h
section
variable {prog : Program} {w : World} {A : Around} {R : GenEnd} {Y : Protocol} {fs : List Frame} {env : Env}
theorem for_ind {tgt : Expr} {it : Value} {body : List Stmt} (I : Nat → Nat → Shared → Shared → Prop)
    (step : ∀ k n s₀ s, I k n s₀ s → (∀ k' n' s₀' s', k' < k → I k' n' s₀' s' → Seg (model prog w) A R Y n' s₀' (.forLoop tgt it body [] env) ((model prog w).den (.forLoop tgt it body [] env)) fs s') →
      Seg (model prog w) A R Y n s₀ (.forLoop tgt it body [] env) ((model prog w).den (.forLoop tgt it body [] env)) fs s) :
    ∀ k n s₀ s, I k n s₀ s → Seg (model prog w) A R Y n s₀ (.forLoop tgt it body [] env) ((model prog w).den (.forLoop tgt it body [] env)) fs s := by
  intro k
  induction k using Nat.strongRecOn with
  | ind k ih => exact fun n s₀ s h => step k n s₀ s h fun k' n' s₀' s' hk h' => ih k' hk n' s₀' s' h'
end
/-- what the generator of the signs hands out, from the sign at i on -/
noncomputable def scan : Nat → Bool → List Nat → List (Int × Str)
  | i, true, [] => [((i : Int) - 1, Str.ofString "\\")]
  | _, false, [] => []
  | i, true, c :: r => ((i : Int), Str.ofString "\\" ++ ⟨#[c]⟩) :: scan (i + 1) false r
  | i, false, c :: r => if c = 92 then scan (i + 1) true r else ((i : Int), ⟨#[c]⟩) :: scan (i + 1) false r
section
variable (h₀ : Heap) (G GO : Addr) (oGO : Obj) (ys : List (Int × Str))
noncomputable def tupO (p : Int × Str) (t1 t2 : Tok) : Obj := { cls := .type "tuple", data := .seq #[.int p.1 t1, .str p.2 t2] }
/-- from a wake to its end: what the generator leaves alone -/
noncomputable def GMove (s₀ s₁ : Shared) : Prop := (∃ h tk, s₁ = { s₀ with heap := h, toks := tk }) ∧ (∀ b o, b < G → s₀.heap.get? b = some o → s₁.heap.get? b = some o) ∧ s₁.heap.get? GO = some oGO
noncomputable def GR : GenEnd := fun n s₀ r s₁ => r = .ok (.ret .none) ∧ (n = 0 ∧ GMove G GO oGO s₀ s₁)
noncomputable def GKeep (h : Heap) (E IT : Addr) (oG oE oI : Obj) : Prop := h.get? G = some oG ∧ h.get? GO = some oGO ∧ h.get? E = some oE ∧ h.get? IT = some oI
noncomputable def GY : Protocol := fun rem s₀ v s₁ kap => ∃ p T t1 t2 E IT oG oE oI, ys[ys.length - 1 - rem]? = some p ∧ v = .ref T ∧ GMove G GO oGO s₀ s₁ ∧ s₁.heap.get? T = some (tupO p t1 t2) ∧
  (low s₀.heap G).get? T = none ∧ G < E ∧ G < IT ∧ GKeep G GO oGO s₁.heap E IT oG oE oI ∧
  ∀ s₂ : Shared, GKeep G GO oGO s₂.heap E IT oG oE oI → (∀ b o, h₀.get? b = some o → s₂.heap.get? b = some o) → kap (.send .none) s₂
end
end
section
open PySem.Spec PySem.Calls
section
variable {prog : Program} {w : World} {A : Around} {E : Value → Shared → Prop} {s : Shared} {env : Env} {hg : Heap} {m : Str → Option Value} {news : List (Addr × Obj)}
theorem assign2 {xi xv : Str} {pi pv pt : Pos} {x1 : Nat} {T : Addr} {v0 v1 : Value} {Q : Unit → Shared → Prop} (hh : A.handled = none) (hxi : env.kindOf xi = some .local) (hxv : env.kindOf xv = some .local)
    (hp : (env.scope.kind == .class || (env.scope.kind == .module && env.locals != env.globals)) = false) (ht : s.heap.IsTuple T #[v0, v1])
    (F : Fr hg env.locals s.heap m) (N : News hg env.locals s.heap news)
    (hQ : ∀ h' tk, Fr hg env.locals h' (fun y => if y = xv then some v1 else if y = xi then some v0 else m y) → News hg env.locals h' news → (∀ b o, b ≠ env.locals → s.heap.get? b = some o → h'.get? b = some o) →
      Q () { s with heap := h', toks := tk }) :
    wpAny (model prog w) A (assign (.Tuple [.Name xi pi, .Name xv pv] x1 pt) env (.ref T)) Q E s := by
  refine wpAny_assign_Tuple hh ht rfl rfl fun h₃ hx₃ => ?_
  replace hx₃ : Heap.ExtBut s.heap.objs.size s.heap h₃ := hx₃
  have old₃ : ∀ b o, s.heap.get? b = some o → h₃.get? b = some o := fun b o x => hx₃ b o (Nat.ne_of_lt (Heap.lt_size x)) x
  have F₃ : Fr hg env.locals h₃ m := ⟨F.ns.at fun o x => old₃ _ o x, fun b o e => old₃ _ _ (F.keep b o e), F.above⟩
  have N₃ : News hg env.locals h₃ news := fun p hp => ⟨old₃ _ _ (N p hp).1, (N p hp).2⟩
  show wpAny _ A (do holding [v1] (assign (.Name xi pi) env v0); do holding [] (assign (.Name xv pv) env v1); pure ()) _ _ _
  refine wpAny_bind (wpAny_holding (wpAny_assign_Name (wpAny_storeName_local hxi F₃.ns (fun h₄ hn₄ hs₄ => ?_) hp)))
  replace hs₄ : Heap.SameBut env.locals h₃ h₄ := hs₄
  have F₄ := F₃.set hn₄ hs₄
  have N₄ := N₃.set hs₄
  refine wpAny_bind (wpAny_holding (wpAny_assign_Name (wpAny_storeName_local hxv hn₄ (fun h₅ hn₅ hs₅ => wpAny_pure ?_) hp)))
  replace hs₅ : Heap.SameBut env.locals h₄ h₅ := hs₅
  exact hQ _ _ (F₄.set hn₅ hs₅) (N₄.set hs₅) fun b o hb x => hs₅.extBut b o hb (hs₄.extBut b o hb (old₃ b o x))
theorem call_enum_draws {x : Str} {t : Tok} {Q : Value → Shared → Prop} (h : ∀ h' (IT : Nat) (St : Nat → Heap → Prop), IT = s.heap.objs.size → IsEnum h' (IT + 1 : Nat) IT 0 .none → St 0 h' →
      (∀ A : Around, A.handled = none → Draws prog w A IT [IT] x.cps.size (fun i v => ∃ c u, x.cps[i]? = some c ∧ v = .str ⟨#[c]⟩ u) St) →
      (∀ b o, s.heap.get? b = some o → h'.get? b = some o) → Q (.ref (IT + 1 : Nat)) { s with heap := h' }) :
    wpAny (model prog w) A (call (.type "enumerate") [.str x t]) Q E s := by
  refine call_enumerate_str fun h' he hit hsz hk => ?_
  cases ha : x.cps.all (· < 128)
  · have hit' : h'.IsStrIter s.heap.objs.size "str_iterator" x t 0 := by simpa [strIterType, ha] using hit
    exact h h' _ _ rfl he hit' (fun A hh => Draws.strWide hh _ x t) hk
  · have hit' : h'.IsStrIter s.heap.objs.size "str_ascii_iterator" x t 0 := by simpa [strIterType, ha] using hit
    exact h h' _ _ rfl he hit' (fun A hh => Draws.strAscii hh _ x t) hk
/-- one turn's head of the generator's own loop -/
theorem enum_next {xi xv : Str} {pi pv pt : Pos} {x1 : Nat} {EA IT : Nat} {n i : Nat} {P : Nat → Value → Prop} {St : Nat → Heap → Prop} {R Q : Shared → Prop} (D : Draws prog w A.in1 IT [IT] n P St)
    (hxi : env.kindOf xi = some .local) (hxv : env.kindOf xv = some .local) (hh : A.handled = none)
    (hp : (env.scope.kind == .class || (env.scope.kind == .module && env.locals != env.globals)) = false)
    (hei : EA ≠ IT) (hE : env.locals ≠ EA) (hI : env.locals ≠ IT) (gE : hg.get? EA = none) (gI : hg.get? IT = none) (nE : ∀ p ∈ news, p.1 ≠ EA) (nI : ∀ p ∈ news, p.1 ≠ IT) (hle : i ≤ n)
    (F : Fr hg env.locals s.heap m) (N : News hg env.locals s.heap news) (he : ∃ old, IsEnum s.heap EA IT i old) (hs : St i s.heap)
    (hQ : ∀ h' tk v t, i < n → P i v → Fr hg env.locals h' (fun y => if y = xv then some v else if y = xi then some (.int i t) else m y) → News hg env.locals h' news → (∃ old, IsEnum h' EA IT ((i + 1 : Nat) : Int) old) → St (i + 1) h' →
      Q { s with heap := h', toks := tk })
    (hR : ∀ h' tk, i = n → Fr hg env.locals h' m → News hg env.locals h' news → R { s with heap := h', toks := tk }) :
    wpAny (model prog w) A (pyNext (.ref EA)) (fun r s₁ => match r with
      | none => R s₁
      | some v => wpAny (model prog w) A (letOwnedTupleGo (.Tuple [.Name xi pi, .Name xv pv] x1 pt) (.ref EA) v) (fun _ s₂ => wpAny (model prog w) A (assign (.Tuple [.Name xi pi, .Name xv pv] x1 pt) env v) (fun _ s₃ => Q s₃) NoE s₂) NoE s₁) NoE s := by
  have W := WalksT.enumerateD D EA hei (by simpa using hei) (by simp)
  have off : ∀ {b}, b ≠ EA → b ≠ IT → b ∉ [EA, IT] := fun h1 h2 h => by
    rcases List.mem_cons.mp h with e | h
    · exact h1 e
    · exact h2 (List.mem_singleton.mp h)
  have go : ∀ {h h' : Heap} {m'}, (∀ b o, b ∉ [EA, IT] → h.get? b = some o → h'.get? b = some o) → Fr hg env.locals h m' → Fr hg env.locals h' m' := fun hk F => ⟨F.ns.at fun o x => hk _ o (off hE hI) x, fun b o e => hk b o (off (fun q => by rw [q, gE] at e; cases e) (fun q => by rw [q, gI] at e; cases e)) (F.keep b o e), F.above⟩
  have gn : ∀ {h h' : Heap}, (∀ b o, b ∉ [EA, IT] → h.get? b = some o → h'.get? b = some o) → News hg env.locals h news → News hg env.locals h' news := fun hk N p hp => ⟨hk _ _ (off (nE p hp) (nI p hp)) (N p hp).1, (N p hp).2⟩
  rcases Nat.lt_or_ge i n with hlt | hge
  · refine W.item i s _ _ hlt ⟨he, hs⟩ fun T vals h₁ tk hv hT htup hmid hk => ?_
    obtain ⟨t, v, hPv, rfl⟩ := hv
    refine W.go _ _ _ i T _ _ _ hmid fun h₂ hst hk₂ => ?_
    replace hk₂ : ∀ b o, b ∉ [EA, IT] → h₁.get? b = some o → h₂.get? b = some o := hk₂
    have hTn := W.apart i T _ hmid
    have htup₂ : h₂.IsTuple T #[.int i t, v] := let ⟨o, x, r⟩ := htup; ⟨o, hk₂ T o hTn x, r⟩
    refine assign2 hh hxi hxv hp htup₂ (go hk₂ (go hk F)) (gn hk₂ (gn hk N)) fun h₃ tk₃ F₃ N₃ k₃ => ?_
    replace k₃ : ∀ b o, b ≠ env.locals → h₂.get? b = some o → h₃.get? b = some o := k₃
    obtain ⟨⟨old, he₂⟩, hs₂⟩ := hst
    exact hQ h₃ tk₃ v t hlt hPv F₃ N₃ ⟨old, k₃ _ _ (Ne.symm hE) he₂⟩ (D.frame _ _ _ hs₂ fun b hb o x => by rw [List.mem_singleton.mp hb] at x ⊢; exact k₃ _ _ (Ne.symm hI) x)
  · obtain rfl : i = n := Nat.le_antisymm hle hge
    exact W.done s _ _ ⟨he, hs⟩ fun h' tk hk => hR h' tk rfl (go hk F) (gn hk N)
end
theorem fr_known {hg h : Heap} {G : Addr} {m : Str → Option Value} {x : Str} {v : Value} (F : Fr hg G h m) (e : m x = some v) : Fr hg G h (fun y => if y = x then some v else m y) := by
  have : m = fun y => if y = x then some v else m y := funext fun y => by
    by_cases c : y = x
    · rw [if_pos c, c, e]
    · rw [if_neg c]
  rw [← this]; exact F
theorem fr_known2 {hg h : Heap} {G : Addr} {m : Str → Option Value} {a b x : Str} {A B : Option Value} {v : Value} (F : Fr hg G h (fun y => if y = a then A else if y = b then B else m y)) (e : m x = some v) :
    Fr hg G h (fun y => if y = a then A else if y = b then B else if y = x then some v else m y) := by
  have : (fun y => if y = a then A else if y = b then B else m y) = fun y => if y = a then A else if y = b then B else if y = x then some v else m y := funext fun y => by
    by_cases ca : y = a
    · rw [if_pos ca, if_pos ca]
    · rw [if_neg ca, if_neg ca]
      by_cases cb : y = b
      · rw [if_pos cb, if_pos cb]
      · rw [if_neg cb, if_neg cb]
        by_cases c : y = x
        · rw [if_pos c, c, e]
        · rw [if_neg c]
  rw [← this]; exact F
theorem gy_intro {h₀ : Heap} {G GO EA IT : Nat} {oGO oE oI : Obj} {ys dn rest : List (Int × Str)} {p : Int × Str} {s₀ s₁ : Shared} {kap : Resume → Shared → Prop} {T : Addr} {t1 t2 : Tok} {m : Str → Option Value} {news : List (Addr × Obj)}
    (hys : ys = dn ++ p :: rest) (hs : ∃ h tk, s₁ = { s₀ with heap := h, toks := tk }) (F : Fr (low s₀.heap G) G s₁.heap m) (N : News (low s₀.heap G) G s₁.heap news)
    (hT : (T, tupO p t1 t2) ∈ news) (hGO : (GO, oGO) ∈ news) (hE : (EA, oE) ∈ news) (hI : (IT, oI) ∈ news) (g0 : G < GO) (g1 : G < EA) (g2 : G < IT)
    (hkap : ∀ s₂ : Shared, Fr (low s₂.heap G) G s₂.heap m → News (low s₂.heap G) G s₂.heap [(GO, oGO), (EA, oE), (IT, oI)] → (∀ b o, h₀.get? b = some o → s₂.heap.get? b = some o) → kap (.send .none) s₂) :
    GY h₀ G GO oGO ys rest.length s₀ (.ref T) s₁ kap := by
  obtain ⟨oG, es, ep, xG, rG⟩ := id F.ns
  refine ⟨p, T, t1, t2, EA, IT, oG, oE, oI, ?_, rfl, ⟨hs, fun b o hb e => F.keep b o ((low_get hb).trans e), (N _ hGO).1⟩, (N _ hT).1, (N _ hT).2.2, g1, g2, ⟨xG, (N _ hGO).1, (N _ hE).1, (N _ hI).1⟩, ?_⟩
  · subst hys
    have : (dn ++ p :: rest).length - 1 - rest.length = dn.length := by simp only [List.length_append, List.length_cons]; omega
    rw [this]; simp
  · rintro s₂ ⟨k1, k2, k3, k4⟩ hk
    refine hkap s₂ ⟨F.ns.at fun o x => ?_, fun b o e => (low_of e).2, low_size⟩ (fun q hq => ?_) hk
    · rw [xG] at x; rw [← x]; exact k1
    · rcases List.mem_cons.mp hq with rfl | hq
      · exact ⟨k2, Nat.ne_of_gt g0, low_none (Nat.le_of_lt g0)⟩
      · rcases List.mem_cons.mp hq with rfl | hq
        · exact ⟨k3, Nat.ne_of_gt g1, low_none (Nat.le_of_lt g1)⟩
        · rw [List.mem_singleton.mp hq]
          exact ⟨k4, Nat.ne_of_gt g2, low_none (Nat.le_of_lt g2)⟩
theorem drop_cons {l : Array Nat} {i c : Nat} (h : l[i]? = some c) : l.toList.drop i = c :: l.toList.drop (i + 1) := by
  obtain ⟨hi, rfl⟩ := Array.getElem?_eq_some_iff.mp h
  rw [List.drop_eq_getElem_cons (by simpa using hi)]; simp
end
section
open PySem.Spec PySem.Calls
section
variable {prog : Program} {w : World} {A₀ A : Around} {s : Shared} {base h₀ : Heap} {outer : List Env} {L : Addr} {m mg mb : Str → Option Value} {env : Env} {news : List (Addr × Obj)} {K : Frag} {p : Program} {loose : List Str} {mean : ExcName → Option Value}
  {R : Result → Shared → Prop} {name qual : Str} {params : Arguments} {body : List Stmt} {scope : Scope} {dV kV doc pm cdv ct oc : Value} {an od : Option Addr} {osl : Array (Option Value)} {f : Addr} {args : Args} {binds : List (Str × Value)}
theorem enterG (F : Fr h₀ L s.heap m) (X₀ : K.In h₀) (N : News h₀ L s.heap news) (T : Top p loose mean mg mb h₀)
    (ho : K.lookup f = some ⟨oc, od, .func (fnOf name qual params body scope dV kV doc pm an cdv ct), osl⟩) (hcd : codeIn K cdv qual = true) (hroom : A.depth < recursionLimit)
    (hbind : BindsTo s (fnOf name qual params body scope dV kV doc pm an cdv ct) args binds) (hloc : ∀ y ∈ binds, scope.names.lookup y.1 = some .local)
    (h : ∀ (G GO : Nat) h₁ tk oG oGO, h₀.objs.size ≤ G → G < GO → L < G → (∀ q ∈ news, q.1 < G) → Fr h₀ L h₁ m → News h₀ L h₁ news → h₁.IsGen GO s.gens.size → h₁.get? GO = some oGO → h₁.get? G = some oG → h₁.Ns G (fun y => binds.reverse.lookup y) →
      R (.ok (.ret (.ref GO))) { s with heap := h₁, gens := s.gens.push (.fresh (.func body (envOf qual scope G f cdv))), toks := tk })
    (hco : scope.isCoroutine = false) (hgen : scope.isGenerator = true) (hk : scope.kind = .function) (hcell : ∀ x ∈ scope.names, x.2 ≠ .cell) : codeAny (model prog w) A (.call (.ref f) args) R s := by
  refine codeAny_call_generator (fd := fnOf name qual params body scope dV kV doc pm an cdv ct) (body := body) hroom ((X₀.keeps F.keep) _ _ ho) rfl hco hgen rfl (codeRec_of (X₀.keeps F.keep) hcd) (hbind _ _ _ _ ?_)
  refine wpAny_newFunctionEnv hcell hloc (fun h₁ hns hsb => ⟨(T.nolimit.keeps F.keep).fresh _ hsb, ?_⟩) hk
  have k1 : ∀ b o, s.heap.get? b = some o → h₁.get? b = some o := fun b o e => hsb.extBut b o (Nat.ne_of_lt (Heap.lt_size e)) (Heap.get?_push_of_some _ e)
  have hz : h₁.objs.size = s.heap.objs.size + 1 := by rw [hsb.1, Heap.size_push]
  obtain ⟨oG, es, ep, xG, rG⟩ := id hns
  refine h s.heap.objs.size h₁.objs.size _ _ oG _ (Nat.le_trans F.above (Nat.le_of_lt F.ns.lt)) (by rw [hz]; exact Nat.lt_succ_self _) F.ns.lt (fun q hq => Heap.lt_size (N q hq).1)
    ⟨(F.ns.keeps k1).keeps fun b o e => Heap.get?_push_of_some _ e, fun b o e => Heap.get?_push_of_some _ (k1 _ _ (F.keep _ _ e)), F.above⟩ (fun q hq => ⟨Heap.get?_push_of_some _ (k1 _ _ (N q hq).1), (N q hq).2⟩) ?_ (Heap.get?_push_size _ rfl) (Heap.get?_push_of_some _ xG) (hns.keeps fun b o e => Heap.get?_push_of_some _ e)
  exact ⟨_, _, _, Heap.get?_push_size _ rfl, rfl, rfl, rfl⟩
end
theorem setGen_push (s : Shared) (gens : Array GenState) (g g' : GenState) (h : Heap) (tk : Nat) : ({ s with heap := h, gens := gens.push g, toks := tk } : Shared).setGen gens.size g' = { s with heap := h, gens := gens.push g', toks := tk } := by
  unfold Shared.setGen
  congr 1
  apply Array.ext
  · simp
  · intro i h1 h2
    simp only [Array.size_setIfInBounds, Array.size_push] at h1
    rw [Array.getElem_setIfInBounds]
    · by_cases c : gens.size = i
      · subst c; simp
      · have h3 : i < gens.size := by omega
        rw [if_neg c, Array.getElem_push_lt h3, Array.getElem_push_lt h3]
    · simpa using h1
theorem push_get (gens : Array GenState) (g : GenState) : (gens.push g)[gens.size]? = some g := by simp
end
section
open PySem.Spec PySem.Calls
section
variable {prog : Program} {w : World} {A : Around}
theorem letOwned_gen {elts : List Expr} {x1 : Nat} {pos : Pos} {E : Value → Shared → Prop} {s : Shared} {GO T : Addr} {g : Nat} {Q : Unit → Shared → Prop} (hit : s.heap.IsGen GO g) (hQ : Q () s) :
    wpAny (model prog w) A (letOwnedTupleGo (.Tuple elts x1 pos) (.ref GO) (.ref T)) Q E s := by
  obtain ⟨o, nm, qn, ho, hc, hd, _⟩ := hit
  unfold letOwnedTupleGo
  refine wpAny_bind (wpAny_load ho ?_)
  rw [hc, hd]
  show wpAny _ A (if (["enumerate", "zip", "dict_itemiterator", "dict_reverseitemiterator", "odict_iterator", "itertools.zip_longest", "itertools.pairwise"].contains "generator" &&
      (#[.int g 0, nm, qn] : Array Value)[0]? == some (rawInt T)) = true then _ else _) Q E s
  rw [if_neg (by
    intro h
    rw [show (["enumerate", "zip", "dict_itemiterator", "dict_reverseitemiterator", "odict_iterator", "itertools.zip_longest", "itertools.pairwise"].contains "generator") = false from by decide, Bool.false_and] at h
    cases h)]
  exact wpAny_pure hQ
theorem cons_next {E E₁ E₂ : Value → Shared → Prop} {g' : Heap} {G GO EA IT : Nat} {oG oGO oE oI : Obj} {ys ys' dn : List (Int × Str)} {gs : GenState} {s' : Shared} {h : Heap} {tk : Nat} {m : Str → Option Value} {news : List (Addr × Obj)} {env : Env}
    {xi xv : Str} {pi pv pt : Pos} {x1 : Nat} {R Q : Shared → Prop} (hh : A.handled = none) (hlim : g'.NoLimit) (hroom : A.depth < recursionLimit) (hsz : g'.objs.size ≤ G) (hGG : G < GO) (hLG : env.locals < G) (hnews : ∀ q ∈ news, q.1 < G)
    (hxi : env.kindOf xi = some .local) (hxv : env.kindOf xv = some .local) (hp : (env.scope.kind == .class || (env.scope.kind == .module && env.locals != env.globals)) = false)
    (hig : ∀ h : Heap, h.get? GO = some oGO → h.IsGen GO s'.gens.size) (hys : ys = dn ++ ys') (F : Fr g' env.locals h m) (N : News g' env.locals h (news ++ [(G, oG), (GO, oGO), (EA, oE), (IT, oI)])) (gE : G < EA) (gI : G < IT)
    (hgo : ∀ s₂ : Shared, GKeep G GO oGO s₂.heap EA IT oG oE oI → (∀ b o, g'.get? b = some o → s₂.heap.get? b = some o) → gs.Goes (model prog w) A.in1 (GR G GO oGO) (GY g' G GO oGO ys) ys'.length (.send .none) s₂)
    (hR : ys' = [] → ∀ h' tk', Fr g' env.locals h' m → News g' env.locals h' news → R { s' with heap := h', gens := s'.gens.push .finished, toks := tk' })
    (hQ : ∀ p rest t1 t2 h' tk' gs' (EA' IT' : Nat) oG' oE' oI', ys' = p :: rest → Fr g' env.locals h' (fun y => if y = xv then some (.str p.2 t2) else if y = xi then some (.int p.1 t1) else m y) →
      News g' env.locals h' (news ++ [(G, oG'), (GO, oGO), (EA', oE'), (IT', oI')]) → G < EA' → G < IT' →
      (∀ s₂ : Shared, GKeep G GO oGO s₂.heap EA' IT' oG' oE' oI' → (∀ b o, g'.get? b = some o → s₂.heap.get? b = some o) → gs'.Goes (model prog w) A.in1 (GR G GO oGO) (GY g' G GO oGO ys) rest.length (.send .none) s₂) →
      Q { s' with heap := h', gens := s'.gens.push gs', toks := tk' }) :
    wpAny (model prog w) A (pyNext (.ref GO)) (fun r s₁ => match r with
      | none => R s₁
      | some v => wpAny (model prog w) A (letOwnedTupleGo (.Tuple [.Name xi pi, .Name xv pv] x1 pt) (.ref GO) v) (fun _ s₂ => wpAny (model prog w) A (assign (.Tuple [.Name xi pi, .Name xv pv] x1 pt) env v) (fun _ s₃ => Q s₃) E₁ s₂) E₂ s₁) E
      { s' with heap := h, gens := s'.gens.push gs, toks := tk } := by
  have nG := N (G, oG) (List.mem_append_right _ (.head _))
  have nGO := N (GO, oGO) (List.mem_append_right _ (.tail _ (.head _)))
  have nE := N (EA, oE) (List.mem_append_right _ (.tail _ (.tail _ (.head _))))
  have nI := N (IT, oI) (List.mem_append_right _ (.tail _ (.tail _ (.tail _ (.head _)))))
  have lowk : ∀ {h₁ : Heap}, (∀ b o, b < G → h.get? b = some o → h₁.get? b = some o) → Fr g' env.locals h₁ m ∧ News g' env.locals h₁ news := fun k =>
    ⟨⟨F.ns.at fun o x => k _ o hLG x, fun b o e => k b o (Nat.lt_of_lt_of_le (Heap.lt_size e) hsz) (F.keep b o e), F.above⟩, fun q hq => ⟨k _ _ (hnews q hq) (N q (List.mem_append_left _ hq)).1, (N q (List.mem_append_left _ hq)).2⟩⟩
  refine wpAny_pyNext_gen (P := fun n s₀ s₁ => n = 0 ∧ GMove G GO oGO s₀ s₁) (Y := GY g' G GO oGO ys) (n := ys'.length) hh (hlim.keeps F.keep) hroom (hig _ nGO.1) (push_get _ _) (hgo _ ⟨nG.1, nGO.1, nE.1, nI.1⟩ F.keep) ?_ ?_
  · intro v s₁ gs' hy
    rw [setGen_push] at hy
    obtain ⟨p, T, t1, t2, EA', IT', oG', oE', oI', hp', rfl, ⟨⟨h₁, tk₁, rfl⟩, hk₁, hGO₁⟩, hT, hTn, gE', gI', hkeep, hkap⟩ := hy
    replace hk₁ : ∀ b o, b < G → h.get? b = some o → h₁.get? b = some o := hk₁
    obtain ⟨F₁, N₁⟩ := lowk hk₁
    cases ys' with
    | nil => exact (hkap _ hkeep F₁.keep).elim
    | cons q rest =>
      have e1 : ys.length - 1 - ((q :: rest).length - 1) = dn.length := by subst hys; simp only [List.length_append, List.length_cons]; omega
      rw [e1, hys] at hp'
      rw [List.getElem?_append_right (Nat.le_refl _), Nat.sub_self] at hp'
      obtain rfl : q = p := Option.some.inj hp'
      show wpAny _ _ _ _ _ (Shared.setGen _ s'.gens.size gs')
      rw [setGen_push]
      refine letOwned_gen (hig _ hGO₁) ?_
      obtain ⟨kG, kGO, kE, kI⟩ := hkeep
      have neL : ∀ {b : Nat}, G ≤ b → b ≠ env.locals := fun hb e => Nat.lt_irrefl _ (Nat.lt_of_lt_of_le hLG (e ▸ hb))
      have gn : ∀ {b : Nat}, G ≤ b → g'.get? b = none := fun hb => Heap.get?_none_of_le (Nat.le_trans hsz hb)
      refine assign2 hh hxi hxv hp ⟨_, hT, rfl, _, rfl⟩ F₁ (news := news ++ [(G, oG'), (GO, oGO), (EA', oE'), (IT', oI')]) ?_ fun h₂ tk₂ F₂ N₂ _ => ?_
      · exact fun z hz => by
          rcases List.mem_append.mp hz with hz | hz
          · exact N₁ z hz
          · rcases List.mem_cons.mp hz with rfl | hz
            · exact ⟨kG, neL (Nat.le_refl _), gn (Nat.le_refl _)⟩
            · rcases List.mem_cons.mp hz with rfl | hz
              · exact ⟨kGO, neL (Nat.le_of_lt hGG), gn (Nat.le_of_lt hGG)⟩
              · rcases List.mem_cons.mp hz with rfl | hz
                · exact ⟨kE, neL (Nat.le_of_lt gE'), gn (Nat.le_of_lt gE')⟩
                · rw [List.mem_singleton.mp hz]; exact ⟨kI, neL (Nat.le_of_lt gI'), gn (Nat.le_of_lt gI')⟩
      · exact hQ q rest t1 t2 h₂ tk₂ gs' EA' IT' oG' oE' oI' rfl F₂ N₂ gE' gI' hkap
  · rintro s₁ ⟨hn, ⟨h₁, tk₁, rfl⟩, hk₁, hGO₁⟩ h' hk'
    rw [setGen_push] at hk₁ ⊢
    replace hk₁ : ∀ b o, b < G → h.get? b = some o → h₁.get? b = some o := hk₁
    obtain ⟨F₁, N₁⟩ := lowk fun b o hb e => hk' b o (hk₁ b o hb e)
    have := hR (List.length_eq_zero_iff.mp hn) h' tk₁ F₁ N₁
    show R { Shared.setGen _ s'.gens.size GenState.finished with heap := h' }
    rw [setGen_push]
    exact this
end
end

section
noncomputable def KC (w : World) (mean : ExcName → Option Value) (mg mb : Str → Option Value) (h : Heap) : Prop := (KF w.params).In h ∧ Top VW (looseW VW lo) mean mg mb h
theorem KC.keeps {w : World} {mean : ExcName → Option Value} {mg mb : Str → Option Value} {h h' : Heap} (k : KC w mean mg mb h) (hk : ∀ b o, h.get? b = some o → h'.get? b = some o) : KC w mean mg mb h' := ⟨k.1.keeps hk, k.2.keeps hk⟩
theorem bs_iff (c : Nat) : (({ cps := #[c] } : Str) == Str.ofString "\\") = decide (c = 92) := by
  by_cases h : c = 92
  · subst h; decide
  · rw [decide_eq_false h]
    refine beq_eq_false_iff_ne.mpr fun e => h ?_
    have h2 : (#[c] : Array Nat)[0]? = (Str.ofString "\\").cps[0]? := congrArg (fun a : Str => a.cps[0]?) e
    rw [show (Str.ofString "\\").cps[0]? = some 92 by decide] at h2
    simpa using h2
noncomputable def GI (h₀ : Heap) (G GO : Nat) (oGO : Obj) (x : Str) (EA IT : Nat) (St : Nat → Heap → Prop) (k n : Nat) (s₀ s : Shared) : Prop := ∃ i e m dn, i + k = x.cps.size ∧ scan 0 false x.cps.toList = dn ++ scan i e (x.cps.toList.drop i) ∧ n = (scan i e (x.cps.toList.drop i)).length ∧
  (∀ b o, h₀.get? b = some o → s₀.heap.get? b = some o) ∧ Fr (low s₀.heap G) G s.heap m ∧ m (Str.ofString "escape") = some (.bool e) ∧ (e = true → ∃ tp, m (Str.ofString "pos") = some (.int ((i : Int) - 1) tp)) ∧ News (low s₀.heap G) G s.heap [(GO, oGO)] ∧
  (∃ old, IsEnum s.heap EA IT i old) ∧ St i s.heap ∧ ∃ h tk, s = { s₀ with heap := h, toks := tk }
set_option maxHeartbeats 0 in
theorem c_iter (w : World) (x : Str) (t : Tok) : ∀ (mean : ExcName → Option Value) (mg mb : Str → Option Value) (dp un : Nat) (gd : Option (List Code)) (cn : Str) (cs : Scope) (L a : Addr) (ccd : Value) (cl : List (Str × Addr)) (outer : List Env)
    (h₀ : Heap) (G GO : Nat) (oGO : Obj) (s : Shared), KC w mean mg mb h₀ → cs.kind = .function → dp + 5 < recursionLimit → un + 50 < cLine → h₀.objs.size ≤ G → G < GO → x.length < 1000 →
    Fr h₀ G s.heap (fun y => [(Str.ofString "addr", Value.str x t)].reverse.lookup y) → s.heap.get? GO = some oGO →
    GenAt (fun body env => Seg (model PG w) (ktrTop dp un gd cn cs L a ccd cl outer).in1 (GR G GO oGO) (GY h₀ G GO oGO (scan 0 false x.cps.toList)) (scan 0 false x.cps.toList).length s (.func body env) ((model PG w).den (.func body env)) [] s) (KF w.params) 21 G := by
  k_with "LeaveK" => (k_dflt (refine' leaveM ?hM ?hN ?G ?k1 ?k2 ?sub ?_; (case G => assumption); (case hM => assumption); (case hN => assumption); (case k1 => k_asm); (case k2 => k_asm); (case sub => lcg_sub)); intro kF kN kM; (try dsimp only))
  k_with "CompSrcT" => (k_here; k_dflt (first | (refine LCt.CompSrcT.range (n := 4) (by rfl) (by k_asm) (by k_asm) (by assumption) (by first | decide | rfl) (by first | rfl | decide) (by first | size_fits | exact Nat.le_of_ble_eq_true rfl) ?_; intro g') | (refine LCt.CompSrcT.range (n := 3) (by rfl) (by k_asm) (by k_asm) (by assumption) (by first | decide | rfl) (by first | rfl | decide) (by first | size_fits | exact Nat.le_of_ble_eq_true rfl) ?_; intro g') | (refine LCt.CompSrcT.range (n := 2) (by rfl) (by k_asm) (by k_asm) (by assumption) (by first | decide | rfl) (by first | rfl | decide) (by first | size_fits | exact Nat.le_of_ble_eq_true rfl) ?_; intro g') | (refine LCt.CompSrcT.range (n := 1) (by rfl) (by k_asm) (by k_asm) (by assumption) (by first | decide | rfl) (by first | rfl | decide) (by first | size_fits | exact Nat.le_of_ble_eq_true rfl) ?_; intro g') | (refine LCt.CompSrcT.range (n := 0) (by rfl) (by k_asm) (by k_asm) (by assumption) (by first | decide | rfl) (by first | rfl | decide) (by first | size_fits | exact Nat.le_of_ble_eq_true rfl) ?_; intro g')))
  k_with "CompRestT" => (refine stop_out ?_)
  k_with "TurnT" => (refine TurnT.mk (by first | exact fun _ h => h | lcg_sub) ?_ (by first | exact StrIs.mk | exact IntIs.mk (by first | rfl | decide | omega)); (try dsimp only); first | assumption | (with_unfolding_all exact decide_eq_true (by assumption)) | (simp_all; done))
  k_with "TurnF" => (refine TurnF.mk (by first | exact fun _ h => h | lcg_sub) ?_; (try dsimp only); first | assumption | (with_unfolding_all exact decide_eq_false (by assumption)) | (simp_all; done))
  k_with "eval ListComp" => (k_here; (with_reducible show wpAny _ _ (eval (Expr.ListComp _ _ _ _) _) _ _ _); first | (lct_look; lcg_calm; k_dflt (refine LCt.ListComp_T (F₀ := by k_asm) (by with_unfolding_all rfl) (by decide) (by rfl) (by decide) (by rfl) ?_); k_dflt lct_toSrc) | (lcf_look; lcg_calm; k_dflt (refine LCg.ListComp_U (F₀ := by k_asm) (by with_unfolding_all rfl) (by decide) (by rfl) (by decide) (by rfl) ?_); k_dflt lcg_toSrc) | (lcg_look; lcg_calm; k_dflt (refine LCg.ListComp_U (F₀ := by k_asm) (by rfl) (by decide) (by rfl) (by decide) (by rfl) ?_); k_dflt lcg_toSrc))
  k_with "binaryOp Mult ref int" => (k_here; (with_reducible show wpAny _ _ (binaryOp Operator.Mult (Value.ref _) (Value.int _ _)) _ _ _); k_dflt (refine' KMa.mul ?F ?N ?l ?lo ?hi ?z ?e ?_; (case F => k_asm); (case N => k_asm); (case l => is_list); (case lo => first | omega | decide); (case hi => first | omega | decide); (case z => (simp only [List.length_cons, List.length_nil]; decide)); (case e => (simp only [Int.sub_zero, Int.sub_self, Int.reduceSub, Int.reduceToNat, Int.toNat_zero, List.replicate_succ, List.replicate_zero, List.flatten_cons, List.flatten_nil, List.cons_append, List.nil_append, List.append_nil]; first | done | exact rfl)); k_whole); intro D' h' F' N' l1; (try k_lt l1); (try k_sweep))
  k_with "CompRest" => (refine stop_out ?_)
  k_with "CompEnd" => k_dflt (first | (refine LCg.CompEnd.intro (by assumption) (by assumption) _ (fun _ h => h) (by assumption) (by lcg_src) ?_) | (refine LCg.CompEnd.intro (by assumption) (by assumption) _ (fun _ h => List.Mem.tail _ h) (by assumption) (by lcg_src) ?_))
  k_with "TurnV" => (refine TurnV.mk (fun _ h => h) (by first | exact StrIs.mk | exact IntIs.mk (by first | rfl | decide | omega) | rfl))
  k_with "FinE" => ((unfold LCg.FinE); intro D' h' tk' F' N' o1'; (replace o1' := off1H o1'); (try simp only [List.nil_append, List.cons_append] at N'); (try simp only [List.nil_append, List.cons_append] at o1'); (try dsimp only))
  k_with "FinA" => ((unfold LCg.FinA); intro D' h' tk' F' N' o1'; (replace o1' := off1H o1'); (try simp only [List.nil_append, List.cons_append] at N'); (try simp only [List.nil_append, List.cons_append] at o1'); (try dsimp only))
  k_with "subscriptTail Name Name ref int" => (k_here; (with_reducible show wpAny _ _ (subscriptTail _ _ (Value.ref _) (Value.int _ _)) _ _ _); k_dflt (refine' item_led ?N ?m ?a ?b ?x ?_; (case N => k_asm); (case m => k_mem); (case a => decide); (case b => decide); (case x => exact rfl)))
  k_with "subscriptTail Name Constant ref int" => (k_here; (with_reducible show wpAny _ _ (subscriptTail _ _ (Value.ref _) (Value.int _ _)) _ _ _); k_dflt (refine' item_led ?N ?m ?a ?b ?x ?_; (case N => k_asm); (case m => k_mem); (case a => decide); (case b => decide); (case x => exact rfl)))
  k_with "subscriptTail Name BinOp ref int" => (k_here; (with_reducible show wpAny _ _ (subscriptTail _ _ (Value.ref _) (Value.int _ _)) _ _ _); k_dflt (refine' item_led ?N ?m ?a ?b ?x ?_; (case N => k_asm); (case m => k_mem); (case a => decide); (case b => decide); (case x => exact rfl)))
  k_with "eval Name" => (k_here; (with_reducible show wpAny _ _ (eval (Expr.Name _ _) (compEnvC _ _ _ _)) _ _ _); k_dflt (first | (refine' lcf_cell ?N ?c ?m ?d ?_ ?a ?b; (case b => exact rfl); (case a => exact rfl); (case N => k_asm); (case c => exact rfl); (case m => k_mem); (case d => k_asm)) | (refine' LCgL.ld_own ?N ?m ?h ?x ?_ ?a ?b; (case b => exact rfl); (case a => exact rfl); (case N => k_asm); (case x => with_reducible assumption); (case m => k_mem); (case h => with_reducible assumption))))
  k_with "call type:enumerate" => (refine stop_out ?_)
  delta PG; k_fill
  intro mean mg mb dp un gd cn cs L a ccd cl outer h₀ G GO oGO s kc hk hd hu hG hGO hx F₀ N₀
  refine' genAt_of ?ho ?_
  case ho => k_is
  have hk₀ := F₀.keep
  have kc' := kc.keeps (stays_low F₀.keep hG)
  obtain ⟨X, T⟩ := kc'
  have F : Fr (low s.heap G) G s.heap (fun y => [(Str.ofString "addr", Value.str x t)].reverse.lookup y) := ⟨F₀.ns, fun b o e => (low_of e).2, low_size⟩
  have N : News (low s.heap G) G s.heap [(GO, oGO)] := fun p hp => by
    rw [List.mem_singleton.mp hp]; exact ⟨N₀, Nat.ne_of_gt hGO, low_none (Nat.le_of_lt hGO)⟩
  clear F₀ N₀
  refine seg_func ?_
  refine seg_execs_cons (seg_wrapN ?_)
  rw [over_func]
  k_steps
  (try dsimp only)
  refine seg_execs_cons (seg_wrapN ?_)
  rw [over_func]
  k_steps
  (try dsimp only)
  refine seg_execs_cons (seg_For (fun _ => rfl) ?_)
  rw [over_func]
  k_steps
  refine stop_in ?_
  refine call_enum_draws ?_
  intro h₁ IT St hIT he hs₁ D hk₁
  rename News _ _ _ _ => N₁
  rename Fr _ _ _ _ => F₁
  have gI : GO < IT := by rw [hIT]; exact Heap.lt_size (N₁ (GO, oGO) (.head _)).1
  clear hIT
  refine wpAny_pyIter_enum he ?_
  intro p
  refine for_ind (GI h₀ G GO oGO x _ _ St) ?_ x.cps.size _ _ _ ⟨0, false, _, [], Nat.zero_add _, rfl, rfl, hk₀, ⟨F₁.ns.keeps hk₁, fun b o e => hk₁ _ _ (F₁.keep b o e), F₁.above⟩, by rfl, by (intro h; cases h), fun p hp => ⟨hk₁ _ _ (N₁ p hp).1, (N₁ p hp).2⟩, ⟨_, he⟩, hs₁, ⟨_, _, rfl⟩⟩
  clear he hs₁ hk₁ X T F₁ N₁ hk₀ s
  rintro k n s₀ s ⟨i, e, m, dn, hik, hys, rfl, hk0, F, hm, hpos, N, he, hst, ⟨h, tk, rfl⟩⟩ ih
  obtain ⟨X, T⟩ := kc.keeps (stays_low hk0 hG)
  refine seg_forLoop ?_
  rw [over_for]
  refine enum_next (D _ rfl) rfl rfl rfl rfl (Nat.succ_ne_self _) (show (G : Nat) ≠ IT + 1 by omega) (show (G : Nat) ≠ IT by omega) (low_none (show (G : Nat) ≤ IT + 1 by omega)) (low_none (show (G : Nat) ≤ IT by omega)) (fun p hp => by rw [List.mem_singleton.mp hp]; show (GO : Nat) ≠ IT + 1; omega) (fun p hp => by rw [List.mem_singleton.mp hp]; show (GO : Nat) ≠ IT; omega) (show i ≤ x.cps.size by omega) F N he hst ?item ?last
  · intro h' tk' v t' hlt hP F' N' he' hst'
    clear F N he hst
    obtain ⟨c, u, hc, rfl⟩ := hP
    have hd9 := drop_cons hc
    obtain ⟨old, he'⟩ := he'
    obtain ⟨oI, hoI⟩ := (D (ktrTop dp un gd cn cs L a ccd cl outer) rfl).live _ _ hst'
    have hoI' := hoI
    replace F' : Fr (low s₀.heap G) G h' _ := fr_known2 F' hm
    replace N' : News (low s₀.heap G) G h' [(GO, oGO), (IT + 1, _), (IT, oI)] := fun p hp => by
      rcases List.mem_cons.mp hp with rfl | hp
      · exact N' _ (.head _)
      · rcases List.mem_cons.mp hp with rfl | hp
        · exact ⟨he', (show (IT + 1 : Nat) ≠ G by omega), low_none (show (G : Nat) ≤ IT + 1 by omega)⟩
        · rw [List.mem_singleton.mp hp]; exact ⟨hoI, (show (IT : Nat) ≠ G by omega), low_none (show (G : Nat) ≤ IT by omega)⟩
    (try dsimp only at F')
    cases e with
    | true =>
      rw [hd9] at hys ⊢
      replace hys : scan 0 false x.cps.toList = dn ++ (((i : Int), Str.ofString "\\" ++ ⟨#[c]⟩) :: scan (i + 1) false (x.cps.toList.drop (i + 1))) := hys
      show Seg _ _ _ _ ((scan (i + 1) false (x.cps.toList.drop (i + 1))).length + 1) _ _ _ _ _
      refine seg_execs_cons (seg_If ?_)
      rw [over_for]
      k_steps
      refine seg_execs_cons (seg_Expr_Yield rfl rfl rfl ?_)
      rw [over_for]
      k_steps
      rename Resume → Shared → Prop => kap
      rename ∀ (x : Value) (s : Shared), _ → kap _ s => hkap
      rename Fr _ _ _ _ => F9
      rename News _ _ _ _ => N9
      rename GO < _ ∧ _ ∧ _ => l9
      refine gy_intro hys ⟨_, _, rfl⟩ F9 N9 (.head _) (.tail _ (.head _)) (.tail _ (.tail _ (.head _))) (.tail _ (.tail _ (.tail _ (.head _)))) hGO (Nat.lt_trans hGO (Nat.lt_succ_of_lt gI)) (Nat.lt_trans hGO gI) fun s₂ F₂ N₂ hk₂ => hkap _ _ ?_
      clear F9 N9 l9 hkap X T hoI
      obtain ⟨X, T⟩ := kc.keeps (stays_low hk₂ hG)
      (try dsimp only)
      refine seg_execs_cons (seg_wrapN ?_)
      rw [over_for]
      k_steps
      (try dsimp only)
      rename Fr _ _ _ _ => F9
      rename News _ _ _ _ => N9
      refine seg_execs_nil (seg_execs_nil (seg_turn (ih (k - 1) _ _ _ (by omega) ⟨i + 1, false, _, dn ++ [_], by omega, (by rw [hys, List.append_assoc]; rfl), rfl, hk₂, F9, by rfl, (by intro h; cases h), fun p hp => N9 p (by rw [List.mem_singleton.mp hp]; exact .head _), ⟨_, (N9 _ (.tail _ (.head _))).1⟩, ?_, ⟨_, _, rfl⟩⟩)))
      refine (D (ktrTop dp un gd cn cs L a ccd cl outer) rfl).frame _ _ _ hst' fun b hb o x => ?_
      rw [List.mem_singleton.mp hb] at x ⊢
      rw [hoI'] at x; cases x; exact (N9 _ (.tail _ (.tail _ (.head _)))).1
    | false =>
      refine seg_execs_cons (seg_If ?_)
      rw [over_for]
      k_steps
      refine seg_execs_cons (seg_If ?_)
      rw [over_for]
      k_steps
      · rename (_ == _) = true => hb
        rw [bs_iff] at hb
        have hb := of_decide_eq_true hb
        rw [hd9] at hys ⊢
        rw [scan, if_pos hb] at hys ⊢
        (try dsimp only)
        refine seg_execs_cons (seg_wrapN ?_)
        rw [over_for]
        k_steps
        (try dsimp only)
        rename Fr _ _ _ _ => F9
        rename News _ _ _ _ => N9
        refine seg_execs_nil (seg_execs_nil (seg_turn (ih (k - 1) _ _ _ (by omega) ⟨i + 1, true, _, dn, by omega, hys, rfl, hk0, F9, by rfl, fun _ => ⟨t', ?_⟩, fun p hp => N9 p (by rw [List.mem_singleton.mp hp]; exact .head _), ⟨_, (N9 _ (.tail _ (.head _))).1⟩, ?_, ⟨_, _, rfl⟩⟩)))
        · show some (Value.int i t') = _
          rw [show ((i + 1 : Nat) : Int) - 1 = i by omega]
        · refine (D (ktrTop dp un gd cn cs L a ccd cl outer) rfl).frame _ _ _ hst' fun b hb o x => ?_
          rw [List.mem_singleton.mp hb] at x ⊢
          rw [hoI] at x; cases x; exact (N9 _ (.tail _ (.tail _ (.head _)))).1
      · rename (_ == _) = false => hb
        rw [bs_iff] at hb
        have hb := of_decide_eq_false hb
        rw [hd9] at hys ⊢
        rw [scan, if_neg hb] at hys ⊢
        (try dsimp only)
        show Seg _ _ _ _ ((scan (i + 1) false (x.cps.toList.drop (i + 1))).length + 1) _ _ _ _ _
        refine seg_execs_cons (seg_Expr_Yield rfl rfl rfl ?_)
        rw [over_for]
        k_steps
        rename Resume → Shared → Prop => kap
        rename ∀ (x : Value) (s : Shared), _ → kap _ s => hkap
        rename Fr _ _ _ _ => F9
        rename News _ _ _ _ => N9
        rename GO < _ ∧ _ ∧ _ => l9
        refine gy_intro hys ⟨_, _, rfl⟩ F9 N9 (.head _) (.tail _ (.head _)) (.tail _ (.tail _ (.head _))) (.tail _ (.tail _ (.tail _ (.head _)))) hGO (Nat.lt_trans hGO (Nat.lt_succ_of_lt gI)) (Nat.lt_trans hGO gI) fun s₂ F₂ N₂ hk₂ => hkap _ _ ?_
        (try dsimp only)
        refine seg_execs_nil (seg_execs_nil (seg_execs_nil (seg_turn (ih (k - 1) _ _ _ (by omega) ⟨i + 1, false, _, dn ++ [_], by omega, (by rw [hys, List.append_assoc]; rfl), rfl, hk₂, F₂, by rfl, (by intro h; cases h), fun p hp => N₂ p (by rw [List.mem_singleton.mp hp]; exact .head _), ⟨_, (N₂ _ (.tail _ (.head _))).1⟩, ?_, ⟨_, _, rfl⟩⟩))))
        refine (D (ktrTop dp un gd cn cs L a ccd cl outer) rfl).frame _ _ _ hst' fun b hb o x => ?_
        rw [List.mem_singleton.mp hb] at x ⊢
        rw [hoI'] at x; cases x; exact (N₂ _ (.tail _ (.tail _ (.head _)))).1
  · intro h' tk' hi F' N'
    replace F' : Fr (low s₀.heap G) G h' _ := F'
    replace N' : News (low s₀.heap G) G h' _ := N'
    clear F N he hst
    have hdn : x.cps.toList.drop i = [] := List.drop_eq_nil_of_le (by simp [hi])
    cases e with
    | false =>
      rw [hdn] at hys ⊢
      replace F' : Fr (low s₀.heap G) G h' _ := fr_known F' hm
      refine seg_execs_cons (seg_If ?_)
      rw [over_func]
      k_steps
      (try dsimp only)
      refine seg_execs_nil (seg_execs_nil (seg_end (.ok (.ret .none)) ⟨rfl, rfl, ⟨_, _, rfl⟩, fun b o hb e => F'.keep b o ((low_get hb).trans e), (N' _ (.head _)).1⟩))
    | true =>
      rw [hdn] at hys ⊢
      obtain ⟨tp, hp⟩ := hpos rfl
      replace F' : Fr (low s₀.heap G) G h' _ := fr_known (x := Str.ofString "escape") (fr_known (x := Str.ofString "pos") F' hp) (by show (if Str.ofString "escape" = Str.ofString "pos" then _ else _) = _; rw [if_neg (by decide)]; exact hm)
      refine seg_execs_cons (seg_If ?_)
      rw [over_func]
      k_steps
      (try dsimp only)
      show Seg _ _ _ _ (([] : List (Int × Str)).length + 1) _ _ _ _ _
      refine seg_execs_cons (seg_Expr_Yield rfl rfl rfl ?_)
      rw [over_func]
      k_steps
      rename Resume → Shared → Prop => kap
      rename ∀ (x : Value) (s : Shared), _ → kap _ s => hkap
      rename Fr _ _ _ _ => F9
      rename News _ _ _ _ => N9
      refine gy_intro (rest := []) hys ⟨_, _, rfl⟩ F9 N9 (.head _) (.tail _ (.head _)) (.tail _ (.head _)) (.tail _ (.head _)) hGO hGO hGO fun s₂ F₂ N₂ hk₂ => hkap _ _ ?_
      (try dsimp only)
      refine seg_execs_nil (seg_execs_nil (seg_end (.ok (.ret .none)) ⟨rfl, rfl, ⟨_, _, rfl⟩, fun b o hb e => e, (N₂ _ (.head _)).1⟩))
  k_with_none
end

section
/-- one sign of the reader: where the text that is kept starts, the open mark's place, the parts -/
noncomputable def stepF (x : Str) (st : Int × Option Int × List Str) (p : Int × Str) : Int × Option Int × List Str :=
  if p.2 = Str.ofString "\"" then
    match st.2.1 with
    | none => (st.1, some p.1, st.2.2)
    | some o => (p.1 + 1, none, if st.1 ≠ o then st.2.2 ++ [Txt.slice x (some st.1) (some o)] else st.2.2)
  else st
noncomputable def stripR (x : Str) (st : Int × Option Int × List Str) : Str := Txt.join (Str.ofString "") (if st.1 < (x.length : Int) then st.2.2 ++ [Txt.slice x (some st.1) none] else st.2.2)
noncomputable def stripF (x : Str) : Str := if (Builtin.Str.occurrences x (Str.ofString "\"") 0 x.length 1).isEmpty = true then x else stripR x ((scan 0 false x.cps.toList).foldl (stepF x) (0, none, []))
noncomputable abbrev RetGen (v : Tok → Value) (news : List (Addr × Obj)) (h₀ : Heap) (L : Addr) (m : Str → Option Value) (s : Shared) (Q : Value → Shared → Prop) : Prop :=
  ∀ t h' tk' gens', (AllBare s.gens → AllBare gens') → Fr h₀ L h' m → News h₀ L h' news → Q (v t) { s with heap := h', gens := gens', toks := tk' }
theorem scan_rng : ∀ (l : List Nat) (i : Nat) (e : Bool), (e = true → 0 < i) → ∀ p ∈ scan i e l, 0 ≤ p.1 ∧ p.1 < ((i + l.length : Nat) : Int)
  | [], i, true, h, p, hp => by
    have := h rfl
    rw [scan] at hp
    rw [List.mem_singleton.mp hp]; simp only [List.length_nil]; omega
  | [], i, false, h, p, hp => by rw [scan] at hp; cases hp
  | c :: r, i, true, h, p, hp => by
    rw [scan] at hp
    rcases List.mem_cons.mp hp with rfl | hp
    · simp only [List.length_cons]; omega
    · have := scan_rng r (i + 1) false (by intro h; cases h) p hp
      simp only [List.length_cons]; omega
  | c :: r, i, false, h, p, hp => by
    rw [scan] at hp
    split at hp
    · have := scan_rng r (i + 1) true (by intro h; omega) p hp
      simp only [List.length_cons]; omega
    · rcases List.mem_cons.mp hp with rfl | hp
      · simp only [List.length_cons]; omega
      · have := scan_rng r (i + 1) false (by intro h; cases h) p hp
        simp only [List.length_cons]; omega
theorem scan_len : ∀ (l : List Nat) (i : Nat) (e : Bool), (scan i e l).length ≤ l.length + 1
  | [], i, true => by rw [scan]; simp
  | [], i, false => by rw [scan]; simp
  | c :: r, i, true => by rw [scan]; have := scan_len r (i + 1) false; simp only [List.length_cons]; omega
  | c :: r, i, false => by
    rw [scan]
    split
    · have := scan_len r (i + 1) true; simp only [List.length_cons]; omega
    · have := scan_len r (i + 1) false; simp only [List.length_cons]; omega
noncomputable def Rng (x : Str) (k : Nat) (st : Int × Option Int × List Str) : Prop := 0 ≤ st.1 ∧ st.1 ≤ (x.length : Int) ∧ (∀ o, st.2.1 = some o → 0 ≤ o ∧ o < (x.length : Int)) ∧ st.2.2.length ≤ k ∧ ∀ y ∈ st.2.2, y.length ≤ x.length
theorem step_rng {x : Str} {k : Nat} {st : Int × Option Int × List Str} {p : Int × Str} (h : Rng x k st) (hp : 0 ≤ p.1 ∧ p.1 < (x.length : Int)) : Rng x (k + 1) (stepF x st p) := by
  obtain ⟨st, op, acc⟩ := st
  obtain ⟨h1, h2, h3, h4, h5⟩ := h
  dsimp only at h1 h2 h3 h4 h5
  unfold stepF
  split
  · cases op with
    | none => exact ⟨h1, h2, fun o e => by cases e; exact hp, Nat.le_succ_of_le h4, h5⟩
    | some o =>
      refine ⟨by show 0 ≤ p.1 + 1; omega, by show p.1 + 1 ≤ _; omega, fun o e => (nomatch e), ?_, ?_⟩
      · show List.length (if st ≠ o then acc ++ [_] else acc) ≤ k + 1
        split
        · simp only [List.length_append, List.length_cons, List.length_nil]; omega
        · omega
      · show ∀ y ∈ (if st ≠ o then acc ++ [_] else acc), _
        intro y hy
        split at hy
        · rcases List.mem_append.mp hy with hy | hy
          · exact h5 y hy
          · rw [List.mem_singleton.mp hy]; exact Txt.slice_le _ _ _
        · exact h5 y hy
  · exact ⟨h1, h2, h3, Nat.le_succ_of_le h4, h5⟩
theorem fold_rng {x : Str} : ∀ (dn : List (Int × Str)) (k : Nat) (st : Int × Option Int × List Str), Rng x k st → (∀ p ∈ dn, 0 ≤ p.1 ∧ p.1 < (x.length : Int)) → Rng x (k + dn.length) (dn.foldl (stepF x) st)
  | [], k, st, h, _ => h
  | p :: r, k, st, h, hp => by
    have := fold_rng r (k + 1) _ (step_rng h (hp p (.head _))) fun q hq => hp q (.tail _ hq)
    rw [show k + (p :: r).length = k + 1 + r.length by simp only [List.length_cons]; omega]
    exact this
theorem at_rng {x : Str} {dn ys' : List (Int × Str)} {st : Int × Option Int × List Str} (hys : scan 0 false x.cps.toList = dn ++ ys') (hst : st = dn.foldl (stepF x) (0, none, [])) : Rng x (x.length + 1) st := by
  have h1 := fold_rng (x := x) dn 0 (0, none, []) ⟨Int.le_refl _, Int.natCast_nonneg _, fun o e => (nomatch e), Nat.le_refl _, fun y hy => (nomatch hy)⟩ fun p hp => by
    have := scan_rng x.cps.toList 0 false (by intro h; cases h) p (by rw [hys]; exact List.mem_append_left _ hp)
    simpa [Str.length] using this
  have h2 := scan_len x.cps.toList 0 false
  rw [hys, List.length_append] at h2
  rw [← hst] at h1
  obtain ⟨a, b, c, d, e⟩ := h1
  exact ⟨a, b, c, by have : x.length = x.cps.toList.length := by simp [Str.length]
                     omega, e⟩
theorem fr_four {hg h : Heap} {G : Addr} {m : Str → Option Value} {v1 v2 v3 v4 : Value} (F : Fr hg G h m) (h1 : m (Str.ofString "start") = some v1) (h2 : m (Str.ofString "open_pos") = some v2) (h3 : m (Str.ofString "result") = some v3) (h4 : m (Str.ofString "addr") = some v4) :
    Fr hg G h (fun y => if y = Str.ofString "start" then some v1 else if y = Str.ofString "open_pos" then some v2 else if y = Str.ofString "result" then some v3 else if y = Str.ofString "addr" then some v4 else m y) := by
  have : m = (fun y => if y = Str.ofString "start" then some v1 else if y = Str.ofString "open_pos" then some v2 else if y = Str.ofString "result" then some v3 else if y = Str.ofString "addr" then some v4 else m y) := funext fun y => by
    by_cases c1 : y = Str.ofString "start"
    · rw [if_pos c1, c1, h1]
    · rw [if_neg c1]
      by_cases c2 : y = Str.ofString "open_pos"
      · rw [if_pos c2, c2, h2]
      · rw [if_neg c2]
        by_cases c3 : y = Str.ofString "result"
        · rw [if_pos c3, c3, h3]
        · rw [if_neg c3]
          by_cases c4 : y = Str.ofString "addr"
          · rw [if_pos c4, c4, h4]
          · rw [if_neg c4]
  rw [← this]; exact F
theorem sum_len {B : Nat} : ∀ (l : List Str), (∀ y ∈ l, y.length ≤ B) → (l.map (·.length)).sum + l.length ≤ (B + 1) * l.length
  | [], _ => Nat.le_refl _
  | y :: r, h => by
    have h1 := sum_len r fun z hz => h z (.tail _ hz)
    have h2 := h y (.head _)
    simp only [List.map_cons, List.sum_cons, List.length_cons, Nat.mul_add] at h1 ⊢; omega
theorem parts_fit {x : Str} (hx : x.length < 100) (l : List Str) (h : ∀ y ∈ l, y.length ≤ x.length) (hl : l.length ≤ x.length + 2) : (l.map (·.length)).sum + l.length ≤ 1048576 := by
  have h1 := sum_len (B := 100) l fun y hy => Nat.le_trans (h y hy) (Nat.le_of_lt hx)
  omega
theorem strsAre_snoc {vs : List Value} {xs : List Str} {y : Str} {u : Tok} (h : StrsAre vs xs) : StrsAre (vs ++ [.str y u]) (xs ++ [y]) := strsAre_app h (.cons _ _ .nil)
theorem genAt_use {P : List Stmt → Env → Prop} {K : Frag} {f L : Addr} {oc od name qual params body scope dV kV doc pm an cdv ct osl} (h : GenAt P K f L)
    (ho : K.lookup f = some ⟨oc, od, .func (fnOf name qual params body scope dV kV doc pm an cdv ct), osl⟩) : P body (envOf qual scope L f cdv) := h _ _ _ _ _ _ _ _ _ _ _ _ _ _ _ ho
noncomputable def optV (o : Option Int) (t : Tok) : Value := match o with | none => .none | some i => .int i t
noncomputable def SI (M : Model) (A : Around) (g' : Heap) (L' l : Addr) (x : Str) (t : Tok) (G GO : Nat) (oGO : Obj) (ys : List (Int × Str)) (s' : Shared) (k : Nat) (s : Shared) : Prop :=
  ∃ ys' dn h tk gs EA IT oG oE oI m st ts to vs n, ys = dn ++ ys' ∧ k = ys'.length ∧ s = { s' with heap := h, gens := s'.gens.push gs, toks := tk } ∧ st = dn.foldl (stepF x) (0, none, []) ∧
    Fr g' L' h m ∧ m (Str.ofString "start") = some (.int st.1 ts) ∧ m (Str.ofString "open_pos") = some (optV st.2.1 to) ∧ m (Str.ofString "result") = some (.ref l) ∧ m (Str.ofString "addr") = some (.str x t) ∧
    StrsAre vs st.2.2 ∧ News g' L' h [(l, listOf vs.toArray n), (G, oG), (GO, oGO), (EA, oE), (IT, oI)] ∧ G < EA ∧ G < IT ∧
    ∀ s₂ : Shared, GKeep G GO oGO s₂.heap EA IT oG oE oI → (∀ b o, g'.get? b = some o → s₂.heap.get? b = some o) → gs.Goes M A.in1 (GR G GO oGO) (GY g' G GO oGO ys) ys'.length (.send .none) s₂
theorem SI.each {M : Model} {A : Around} {g' : Heap} {L' l : Addr} {x : Str} {t : Tok} {G GO : Nat} {oGO : Obj} {ys : List (Int × Str)} {s' : Shared} {P : Nat → Shared → Prop} (k : ∀ ys' dn h tk gs EA IT oG oE oI m (st : Int) (op : Option Int) (acc : List Str) ts to vs n, ys = dn ++ ys' → (st, op, acc) = dn.foldl (stepF x) (0, none, []) → Fr g' L' h m → m (Str.ofString "start") = some (.int st ts) → m (Str.ofString "open_pos") = some (optV op to) → m (Str.ofString "result") = some (.ref l) → m (Str.ofString "addr") = some (.str x t) → StrsAre vs acc → News g' L' h [(l, listOf vs.toArray n), (G, oG), (GO, oGO), (EA, oE), (IT, oI)] → G < EA → G < IT → (∀ s₂ : Shared, GKeep G GO oGO s₂.heap EA IT oG oE oI → (∀ b o, g'.get? b = some o → s₂.heap.get? b = some o) → gs.Goes M A.in1 (GR G GO oGO) (GY g' G GO oGO ys) ys'.length (.send .none) s₂) → P ys'.length { s' with heap := h, gens := s'.gens.push gs, toks := tk }) :
    ∀ n s, SI M A g' L' l x t G GO oGO ys s' n s → P n s := by
  rintro _ _ ⟨ys', dn, h, tk, gs, EA, IT, oG, oE, oI, m, ⟨st, op, acc⟩, ts, to, vs, n, hys, rfl, rfl, hst, F, h1, h2, h3, h4, hvs, N, gE, gI, go⟩
  exact k ys' dn h tk gs EA IT oG oE oI m st op acc ts to vs n hys hst F h1 h2 h3 h4 hvs N gE gI go
theorem SI.mk {M : Model} {A : Around} {g' : Heap} {L' l : Addr} {x : Str} {t : Tok} {G GO : Nat} {oGO : Obj} {ys : List (Int × Str)} {s' : Shared} {ys' dn : List (Int × Str)} {h : Heap} {tk : Nat} {gs : GenState} {EA IT : Addr} {oG oE oI : Obj} {m : Str → Option Value} {st : Int} {op : Option Int} {acc : List Str} {ts to : Tok} {vs : List Value} {n : Nat}
    (hys : ys = dn ++ ys') (hst : (st, op, acc) = dn.foldl (stepF x) (0, none, [])) (F : Fr g' L' h m) (h1 : m (Str.ofString "start") = some (.int st ts)) (h2 : m (Str.ofString "open_pos") = some (optV op to)) (h3 : m (Str.ofString "result") = some (.ref l)) (h4 : m (Str.ofString "addr") = some (.str x t)) (hvs : StrsAre vs acc) (N : News g' L' h [(l, listOf vs.toArray n), (G, oG), (GO, oGO), (EA, oE), (IT, oI)]) (gE : G < EA) (gI : G < IT) (go : (∀ s₂ : Shared, GKeep G GO oGO s₂.heap EA IT oG oE oI → (∀ b o, g'.get? b = some o → s₂.heap.get? b = some o) → gs.Goes M A.in1 (GR G GO oGO) (GY g' G GO oGO ys) ys'.length (.send .none) s₂)) : SI M A g' L' l x t G GO oGO ys s' ys'.length { s' with heap := h, gens := s'.gens.push gs, toks := tk } :=
  ⟨ys', dn, h, tk, gs, EA, IT, oG, oE, oI, m, (st, op, acc), ts, to, vs, n, hys, rfl, rfl, hst, F, h1, h2, h3, h4, hvs, N, gE, gI, go⟩
theorem for_SI {prog : Program} {w : World} {A : Around} {R : Result → Shared → Prop} {target : Expr} {GO G : Nat} {body : List Stmt} {env : Env} {g' h : Heap} {L' l : Addr} {x : Str} {t : Tok} {oGO o : Obj} {ys : List (Int × Str)} {s' : Shared} {tk : Nat} {gs : GenState} (_N : News g' L' h [(l, o)])
    (init : SI (model prog w) A g' L' l x t G GO oGO ys s' ys.length { s' with heap := h, gens := s'.gens.push gs, toks := tk })
    (turn : ∀ n s, SI (model prog w) A g' L' l x t G GO oGO ys s' n s → wpAny (model prog w) A (pyNext (.ref GO)) (fun r s₁ => match r with
      | none => wpAny (model prog w) A (execs [] env) (fun f s₃ => R (.ok f) s₃) (notedBy (model prog w) A env fun e s' => R (.error e) s') s₁
      | some v => wpAny (model prog w) A (letOwnedTupleGo target (.ref GO) v) (fun _ s₁' =>
          wpAny (model prog w) A (assign target env v) (fun _ s₂ => wpAny (model prog w) A (execs body env) (fun f s₃ => match f with
            | .next | .cont => ∃ m, m < n ∧ SI (model prog w) A g' L' l x t G GO oGO ys s' m s₃
            | .brk => R (.ok .next) s₃
            | .ret v => R (.ok (.ret v)) s₃) (notedBy (model prog w) A env fun e s' => R (.error e) s') s₂) (notedBy (model prog w) A env fun e s' => R (.error e) s') s₁') (notedBy (model prog w) A env fun e s' => R (.error e) s') s₁) (notedBy (model prog w) A env fun e s' => R (.error e) s') s) :
    codeAny (model prog w) A (.forLoop target (.ref GO) body [] env) R { s' with heap := h, gens := s'.gens.push gs, toks := tk } := codeAny_forLoop_any _ turn _ init
set_option maxHeartbeats 0 in
theorem c_strip (w : World) (x : Str) (hx : x.length < 100) (t : Tok) (news : List (Addr × Obj)) : Ctr w 20 250 28 [.str x t] news (RetGen (fun t => .str (stripF x) t) news) := by
  k_with "LeaveK" => (k_dflt (refine' leaveM ?hM ?hN ?G ?k1 ?k2 ?sub ?_; (case G => assumption); (case hM => assumption); (case hN => assumption); (case k1 => k_asm); (case k2 => k_asm); (case sub => lcg_sub)); intro kF kN kM; (try dsimp only))
  k_with "CompSrcT" => (k_here; k_dflt (first | (refine LCt.CompSrcT.range (n := 4) (by rfl) (by k_asm) (by k_asm) (by assumption) (by first | decide | rfl) (by first | rfl | decide) (by first | size_fits | exact Nat.le_of_ble_eq_true rfl) ?_; intro g') | (refine LCt.CompSrcT.range (n := 3) (by rfl) (by k_asm) (by k_asm) (by assumption) (by first | decide | rfl) (by first | rfl | decide) (by first | size_fits | exact Nat.le_of_ble_eq_true rfl) ?_; intro g') | (refine LCt.CompSrcT.range (n := 2) (by rfl) (by k_asm) (by k_asm) (by assumption) (by first | decide | rfl) (by first | rfl | decide) (by first | size_fits | exact Nat.le_of_ble_eq_true rfl) ?_; intro g') | (refine LCt.CompSrcT.range (n := 1) (by rfl) (by k_asm) (by k_asm) (by assumption) (by first | decide | rfl) (by first | rfl | decide) (by first | size_fits | exact Nat.le_of_ble_eq_true rfl) ?_; intro g') | (refine LCt.CompSrcT.range (n := 0) (by rfl) (by k_asm) (by k_asm) (by assumption) (by first | decide | rfl) (by first | rfl | decide) (by first | size_fits | exact Nat.le_of_ble_eq_true rfl) ?_; intro g')))
  k_with "CompRestT" => (refine stop_out ?_)
  k_with "TurnT" => (refine TurnT.mk (by first | exact fun _ h => h | lcg_sub) ?_ (by first | exact StrIs.mk | exact IntIs.mk (by first | rfl | decide | omega)); (try dsimp only); first | assumption | (with_unfolding_all exact decide_eq_true (by assumption)) | (simp_all; done))
  k_with "TurnF" => (refine TurnF.mk (by first | exact fun _ h => h | lcg_sub) ?_; (try dsimp only); first | assumption | (with_unfolding_all exact decide_eq_false (by assumption)) | (simp_all; done))
  k_with "eval ListComp" => (k_here; (with_reducible show wpAny _ _ (eval (Expr.ListComp _ _ _ _) _) _ _ _); first | (lct_look; lcg_calm; k_dflt (refine LCt.ListComp_T (F₀ := by k_asm) (by with_unfolding_all rfl) (by decide) (by rfl) (by decide) (by rfl) ?_); k_dflt lct_toSrc) | (lcf_look; lcg_calm; k_dflt (refine LCg.ListComp_U (F₀ := by k_asm) (by with_unfolding_all rfl) (by decide) (by rfl) (by decide) (by rfl) ?_); k_dflt lcg_toSrc) | (lcg_look; lcg_calm; k_dflt (refine LCg.ListComp_U (F₀ := by k_asm) (by rfl) (by decide) (by rfl) (by decide) (by rfl) ?_); k_dflt lcg_toSrc))
  k_with "binaryOp Mult ref int" => (k_here; (with_reducible show wpAny _ _ (binaryOp Operator.Mult (Value.ref _) (Value.int _ _)) _ _ _); k_dflt (refine' KMa.mul ?F ?N ?l ?lo ?hi ?z ?e ?_; (case F => k_asm); (case N => k_asm); (case l => is_list); (case lo => first | omega | decide); (case hi => first | omega | decide); (case z => (simp only [List.length_cons, List.length_nil]; decide)); (case e => (simp only [Int.sub_zero, Int.sub_self, Int.reduceSub, Int.reduceToNat, Int.toNat_zero, List.replicate_succ, List.replicate_zero, List.flatten_cons, List.flatten_nil, List.cons_append, List.nil_append, List.append_nil]; first | done | exact rfl)); k_whole); intro D' h' F' N' l1; (try k_lt l1); (try k_sweep))
  k_with "CompRest" => (refine stop_out ?_)
  k_with "CompEnd" => k_dflt (first | (refine LCg.CompEnd.intro (by assumption) (by assumption) _ (fun _ h => h) (by assumption) (by lcg_src) ?_) | (refine LCg.CompEnd.intro (by assumption) (by assumption) _ (fun _ h => List.Mem.tail _ h) (by assumption) (by lcg_src) ?_))
  k_with "TurnV" => (refine TurnV.mk (fun _ h => h) (by first | exact StrIs.mk | exact IntIs.mk (by first | rfl | decide | omega) | rfl))
  k_with "FinE" => ((unfold LCg.FinE); intro D' h' tk' F' N' o1'; (replace o1' := off1H o1'); (try simp only [List.nil_append, List.cons_append] at N'); (try simp only [List.nil_append, List.cons_append] at o1'); (try dsimp only))
  k_with "FinA" => ((unfold LCg.FinA); intro D' h' tk' F' N' o1'; (replace o1' := off1H o1'); (try simp only [List.nil_append, List.cons_append] at N'); (try simp only [List.nil_append, List.cons_append] at o1'); (try dsimp only))
  k_with "subscriptTail Name Name ref int" => (k_here; (with_reducible show wpAny _ _ (subscriptTail _ _ (Value.ref _) (Value.int _ _)) _ _ _); k_dflt (refine' item_led ?N ?m ?a ?b ?x ?_; (case N => k_asm); (case m => k_mem); (case a => decide); (case b => decide); (case x => exact rfl)))
  k_with "subscriptTail Name Constant ref int" => (k_here; (with_reducible show wpAny _ _ (subscriptTail _ _ (Value.ref _) (Value.int _ _)) _ _ _); k_dflt (refine' item_led ?N ?m ?a ?b ?x ?_; (case N => k_asm); (case m => k_mem); (case a => decide); (case b => decide); (case x => exact rfl)))
  k_with "subscriptTail Name BinOp ref int" => (k_here; (with_reducible show wpAny _ _ (subscriptTail _ _ (Value.ref _) (Value.int _ _)) _ _ _); k_dflt (refine' item_led ?N ?m ?a ?b ?x ?_; (case N => k_asm); (case m => k_mem); (case a => decide); (case b => decide); (case x => exact rfl)))
  k_with "eval Name" => (k_here; (with_reducible show wpAny _ _ (eval (Expr.Name _ _) (compEnvC _ _ _ _)) _ _ _); k_dflt (first | (refine' lcf_cell ?N ?c ?m ?d ?_ ?a ?b; (case b => exact rfl); (case a => exact rfl); (case N => k_asm); (case c => exact rfl); (case m => k_mem); (case d => k_asm)) | (refine' LCgL.ld_own ?N ?m ?h ?x ?_ ?a ?b; (case b => exact rfl); (case a => exact rfl); (case N => k_asm); (case x => with_reducible assumption); (case m => k_mem); (case h => with_reducible assumption))))
  k_with "exec For" => (refine stop_out ?_)
  k_with "Exists" => (refine stop_out ?_)
  k_with "call ref" => (refine stop_out ?_)
  delta Ctr PG lo; k_fill
  intro mean mg mb dp un gd cn cs a ccd cl outer A₀ base h₀ L m s Q E B F X N T hk hd hu hret
  have NA := (news_nil (h₀ := h₀) (L := L) (h := s.heap))
  refine wpAny_call ?_
  k_dflt (refine' enterM ?k1 ?k2 ?k3 ?kM ?k4 ?k5 ?kA ?kF ?kK ?k6 ?k7 ?k8 ?k9 ?kB ?_ ?c2 ?c3 ?c4 ?c5; (case kA => exact rfl); (case kF => exact rfl); (case kK => assumption); (case k1 => k_asm); (case k2 => k_asm); (case k3 => k_asm); (case kM => exact N); (case k4 => exact NA); (case k5 => k_asm); (case k6 => k_is); (case k7 => k_is); (case k8 => ktr_room); (case k9 => first | exact BindsTo.of_eq rfl | exact binds_K (by k_in) rfl (by k_is) rfl rfl rfl); (case c5 => decide); (case kB => exact locs rfl); (case c2 => exact rfl); (case c3 => exact rfl); (case c4 => exact rfl); k_whole; intro g' L' h' G' FG' F' N' B' X' T' l1; (try k_lt l1); (try dsimp only); (try k_lift B'); (try k_fold))
  k_steps
  · rename _ = true => hc9
    have hret' : RetGen (fun t => .str x t) news h₀ L m s Q := by rw [stripF, if_pos hc9] at hret; exact hret
    exact hret' _ _ _ _ id (by assumption) (by assumption)
  rename _ = false => hc9
  have hret' : RetGen (fun t => .str (stripR x ((scan 0 false x.cps.toList).foldl (stepF x) (0, none, []))) t) news h₀ L m s Q := by rw [stripF, if_neg (by rw [hc9]; decide)] at hret; exact hret
  refine stop_in ?_
  refine wpAny_For (hs := fun _ => rfl) ?_
  k_steps
  refine stop_in ?_
  refine wpAny_call ?_
  refine' enterG ?k1 ?k2 ?k3 ?k4 ?k5 ?k6 ?k7 ?k8 ?k9 ?_ ?c1 ?c2 ?c3 ?c4
  (case k1 => k_asm)
  (case k2 => k_asm)
  (case k3 => k_asm)
  (case k4 => k_asm)
  (case k5 => k_is)
  (case k6 => k_is)
  (case k7 => ktr_room)
  (case k8 => first | exact BindsTo.of_eq rfl | exact binds_K (by k_in) rfl (by k_is) rfl rfl rfl)
  (case k9 => exact locs rfl)
  (case c1 => exact rfl)
  (case c2 => exact rfl)
  (case c3 => exact rfl)
  (case c4 => decide)
  k_whole
  rename Fr g' _ _ _ => F₀
  rename News g' _ _ _ => N₀
  intro G GO h₁ tk₁ oG oGO hsz hGG hLG hnw F₁ N₁ hIs hoGO hoG hns
  clear F₀ N₀
  have hig : ∀ h : Heap, h.get? GO = some oGO → h.IsGen GO _ := fun h e => by
    obtain ⟨o, nm, qn, ho, r⟩ := id hIs
    rw [hoGO] at ho; cases ho; exact ⟨_, nm, qn, e, r⟩
  refine wpAny_pyIter_gen hIs ?_
  refine for_SI (x := x) (t := t) (G := G) (oGO := oGO) (ys := scan 0 false x.cps.toList) N₁ ?init ?turn
  case init =>
    refine ⟨_, [], h₁, _, _, GO, GO, oG, oGO, oGO, _, _, _, 0, _, 0, rfl, rfl, rfl, rfl, F₁, by rfl, by rfl, by rfl, by rfl, .nil, fun q hq => ?_, hGG, hGG, ?_⟩
    · rcases List.mem_cons.mp hq with rfl | hq
      · exact N₁ _ (.head _)
      · have hn : ∀ {b : Nat}, G ≤ b → b ≠ L' ∧ g'.get? b = none := fun hb => ⟨fun e => Nat.lt_irrefl _ (Nat.lt_of_lt_of_le hLG (e ▸ hb)), Heap.get?_none_of_le (Nat.le_trans hsz hb)⟩
        rcases List.mem_cons.mp hq with rfl | hq
        · exact ⟨hoG, hn (Nat.le_refl _)⟩
        · have hq : q = (GO, oGO) := by simpa using hq
          rw [hq]; exact ⟨hoGO, hn (Nat.le_of_lt hGG)⟩
    · rintro s₂ ⟨k1, k2, k3, k4⟩ hk₂
      refine ⟨rfl, ?_⟩
      have hF : Fr g' G s₂.heap (fun y => [(Str.ofString "addr", Value.str x t)].reverse.lookup y) := ⟨hns.at fun o e => by rw [hoG] at e; cases e; exact k1, hk₂, hsz⟩
      refine' genAt_use (c_iter w x t mean mg mb (dp + 1) (un + 3) gd _ _ L' 28 _ [] _ g' G GO oGO s₂ ⟨X', T'⟩ rfl (by ktr_room) (by ktr_units) hsz hGG (Nat.lt_trans hx (by decide)) hF k2) ?ho
      case ho => k_is
  case turn =>
    have hlG := hnw _ (.head _)
    refine SI.each ?_
    intro ys' dn h tk gs EA IT oG' oE oI m9 st op acc ts to vs n9 hys hst F9 hm1 hm2 hm3 hm4 hvs N9 gE gI hgo
    refine cons_next (news := [(_, listOf vs.toArray n9)]) rfl (Top.nolimit (by assumption)) (by ktr_room) hsz hGG hLG (fun q hq => by rw [List.mem_singleton.mp hq]; exact hlG) rfl rfl rfl hig hys (fr_four F9 hm1 hm2 hm3 hm4) N9 gE gI hgo ?last ?item
    case last =>
      rintro rfl h8 tk8 F8 N8
      rw [List.append_nil] at hys
      clear F9 N9 F₁ N₁ hgo hns hoG
      have hR9 := at_rng (ys' := []) (by rw [List.append_nil]; exact hys) hst
      obtain ⟨r1, r2, r3, r4, r5⟩ := hR9
      dsimp only at r1 r2 r4 r5
      k_steps
      · rename st < _ => hlt
        rename News g' _ _ _ => N7
        refine join_listW (ys := acc ++ [Txt.slice x (some st) none]) (News.isList N7 (.head _)) (by rw [Array.toList_push]; exact strsAre_snoc hvs) (by decide) (parts_fit hx (acc ++ [Txt.slice x (some st) none]) (fun y hy => ?_) (by simp only [List.length_append, List.length_cons, List.length_nil]; omega)) ?_
        · rcases List.mem_append.mp hy with hy | hy
          · exact r5 y hy
          · rw [List.mem_singleton.mp hy]; exact Txt.slice_le _ _ _
        intro t9 k9
        have hret9 : RetGen (fun t => .str (Txt.join (Str.ofString "") (acc ++ [Txt.slice x (some st) none])) t) news h₀ L m s Q := by rw [hys, ← hst, stripR, if_pos hlt] at hret'; exact hret'
        k_steps
        exact hret9 _ _ _ _ (fun q => AllBare.push (g := .finished) q rfl) (by assumption) (by assumption)
      · rename ¬ st < _ => hlt
        refine join_listW (News.isList (by assumption) (by k_mem)) hvs (by decide) (parts_fit hx acc r5 (by omega)) ?_
        intro t9 k9
        have hret9 : RetGen (fun t => .str (Txt.join (Str.ofString "") acc) t) news h₀ L m s Q := by rw [hys, ← hst, stripR, if_neg hlt] at hret'; exact hret'
        k_steps
        exact hret9 _ _ _ _ (fun q => AllBare.push (g := .finished) q rfl) (by assumption) (by assumption)
    case item =>
      intro p rest t1 t2 h' tk' gs' EA' IT' oG'' oE' oI' hrest F8 N8 gE' gI' hgo'
      subst hrest
      obtain ⟨r1, r2, r3, r4, r5⟩ := at_rng hys hst
      have hst' : stepF x (st, op, acc) p = (dn ++ [p]).foldl (stepF x) (0, none, []) := by rw [List.foldl_append, ← hst]; rfl
      clear F9 N9 F₁ N₁ hgo hns hoG hst
      dsimp only at r1 r2 r3 r4 r5
      have ne1 : NeH G _ := Nat.ne_of_gt hlG
      have ne2 : NeH GO _ := Nat.ne_of_gt (Nat.lt_trans hlG hGG)
      have ne3 : NeH EA' _ := Nat.ne_of_gt (Nat.lt_trans hlG gE')
      have ne4 : NeH IT' _ := Nat.ne_of_gt (Nat.lt_trans hlG gI')
      have hys' : scan 0 false x.cps.toList = (dn ++ [p]) ++ rest := by rw [hys, List.append_assoc]; rfl
      cases op with
      | none =>
        dsimp only [optV] at F8
        k_steps
        · rename Fr g' _ _ _ => F7
          rename News g' _ _ _ => N7
          rename (p.2 == _) = _ => hb
          have hb := (beq_iff_eq).mp hb
          have hs9 : stepF x (st, none, acc) p = (st, some p.1, acc) := by simp [stepF, *]
          rw [hs9] at hst'
          exact stop_in ⟨rest.length, Nat.lt_succ_self _, SI.mk (to := _) hys' hst' F7 (by rfl) (by rfl) (by rfl) (by rfl) (hvs) N7 gE' gI' hgo'⟩
        · rename Fr g' _ _ _ => F7
          rename News g' _ _ _ => N7
          rename (p.2 == _) = _ => hb
          have hb : ¬ p.2 = Str.ofString "\"" := fun e => by rw [e] at hb; exact absurd hb (by decide)
          have hs9 : stepF x (st, none, acc) p = (st, none, acc) := by simp [stepF, *]
          rw [hs9] at hst'
          exact stop_in ⟨rest.length, Nat.lt_succ_self _, SI.mk (to := 0) hys' hst' F7 (by rfl) (by rfl) (by rfl) (by rfl) (hvs) N7 gE' gI' hgo'⟩
      | some o =>
        obtain ⟨r6, r7⟩ := r3 o rfl
        dsimp only [optV] at F8
        k_steps
        · rename Fr g' _ _ _ => F7
          rename News g' _ _ _ => N7
          simp only [List.push_toArray, List.append_eq, List.nil_append] at N7
          rename (p.2 == _) = _ => hb
          have hb := (beq_iff_eq).mp hb
          have hs9 : stepF x (st, some o, acc) p = (p.1 + 1, none, acc ++ [Txt.slice x (some st) (some o)]) := by simp [stepF, *]
          rw [hs9] at hst'
          exact stop_in ⟨rest.length, Nat.lt_succ_self _, SI.mk (to := 0) hys' hst' F7 (by rfl) (by rfl) (by rfl) (by rfl) (strsAre_snoc hvs) N7 gE' gI' hgo'⟩
        · rename Fr g' _ _ _ => F7
          rename News g' _ _ _ => N7
          rename (p.2 == _) = _ => hb
          have hb := (beq_iff_eq).mp hb
          have hs9 : stepF x (st, some o, acc) p = (p.1 + 1, none, acc) := by simp [stepF, *]
          rw [hs9] at hst'
          exact stop_in ⟨rest.length, Nat.lt_succ_self _, SI.mk (to := 0) hys' hst' F7 (by rfl) (by rfl) (by rfl) (by rfl) (hvs) N7 gE' gI' hgo'⟩
        · rename Fr g' _ _ _ => F7
          rename News g' _ _ _ => N7
          rename (p.2 == _) = _ => hb
          have hb : ¬ p.2 = Str.ofString "\"" := fun e => by rw [e] at hb; exact absurd hb (by decide)
          have hs9 : stepF x (st, some o, acc) p = (st, some o, acc) := by simp [stepF, *]
          rw [hs9] at hst'
          exact stop_in ⟨rest.length, Nat.lt_succ_self _, SI.mk (to := _) hys' hst' F7 (by rfl) (by rfl) (by rfl) (by rfl) (hvs) N7 gE' gI' hgo'⟩
  k_with_none
end

section
open Builtin Builtin.Str Builtin.Int
theorem rmul_bool_str (b : Bool) (y : Str) (u : Tok) : Gives (Builtin.«int.__rmul__» ⟨[.bool b, .str y u], []⟩) (.val (Value.notImplemented)) :=
  .of_wp fun M A E s Q h => by obtain ⟨hp, g, d, tk, os⟩ := s; wp_walk; exact ⟨_, rfl, h⟩
theorem strmul_true (x : Str) (t : Tok) : Gives (Builtin.«str.__mul__» ⟨[.str x t, .bool true], []⟩) (.val (.str x t)) := by
  first | exact .rule (.of_eq rfl) | exact .of_eq rfl | exact .of_wp fun M A E s Q h => by obtain ⟨hp, g, d, tk, os⟩ := s; wp_walk; exact ⟨_, rfl, h⟩
theorem strmul_false (x : Str) (t : Tok) : Gives (Builtin.«str.__mul__» ⟨[.str x t, .bool false], []⟩) (.str Str.empty) := by
  first | exact .rule (.of_eq rfl) | exact .of_eq rfl | exact .of_wp fun M A E s Q h => by obtain ⟨hp, g, d, tk, os⟩ := s; wp_walk; exact ⟨_, rfl, h⟩
section
variable {prog : Program} {w : World} {A : Around} {E : Value → Shared → Prop} {s : Shared} {x : Str} {t : Tok}
theorem mul_str_bool {b : Bool} {Q : Value → Shared → Prop} (h : ∀ t' k, Q (.str (if b = true then x else Str.empty) t') { s with toks := k }) : wpAny (model prog w) A (binaryOp .Mult (.str x t) (.bool b)) Q E s := by
  refine wpAny_binaryOp_repeat (T := "str") (U := "bool") (by decide) (fun s' => typeIs_str s' x t) (fun s' => PySem.typeIs_bool s' b) noFill_str_mul F.fills_bool_mul F.slot_bool_rmul repeat_str F.slot_bool_index.lookup
    (call_gives F.slot_bool_rmul (PySem.typeIs_bool s b) F.entry_int_rmul (F.args_int_rmul_2 _ _) (rmul_bool_str b x t) ⟨rfl, ?_⟩)
  cases b with
  | true => exact call_gives F.slot_str_mul (typeIs_str s x t) F.entry_str_mul (F.args_str_mul_2 _ _) (strmul_true x t) (h t s.toks)
  | false => exact call_gives F.slot_str_mul (typeIs_str s x t) F.entry_str_mul (F.args_str_mul_2 _ _) (strmul_false x t) ⟨by decide, h s.toks (s.toks + 1)⟩
end
section
variable {prog : Program} {w : World} {A : Around} {E : Value → Shared → Prop} {s : Shared} {h₀ : Heap} {L : Addr} {m : Str → Option Value} {news : List (Addr × Obj)}
theorem sum_bools {l : Addr} {bs : List Bool} {Q : Value → Shared → Prop} (hh : A.handled = none) (F : Fr h₀ L s.heap m) (N : News h₀ L s.heap news) (hl : s.heap.IsList l (bs.map Value.bool).toArray)
    (h : ∀ h' tk t', Fr h₀ L h' m → News h₀ L h' news → Q (.int (preSum (fun i => if bs.getD i false = true then 1 else 0) bs.length) t') { s with heap := h', toks := tk }) :
    wpAny (model prog w) A (call (.builtin "sum") [.ref l]) Q E s := by
  obtain ⟨ol, hol, _⟩ := id hl
  have hne : l ≠ s.heap.objs.size := Nat.ne_of_lt (Heap.lt_size hol)
  refine call_sum_walkAnyB ?_
  refine wpAny_pyIter_list hl ?_
  have W := (Walks.list (prog := prog) (w := w) (A := A.in1) hh s.heap.objs.size l hne (bs.map Value.bool).toArray).toS
  refine ⟨_, _, _, _, _, _, _, (fun i => if bs.getD i false = true then 1 else 0), rfl, W, ⟨⟨_, Heap.get?_push_size _ rfl, rfl, rfl⟩, hl.at fun o e => Heap.get?_push_of_some _ e⟩, ?_, ?_, ?_⟩
  · intro b hb
    rw [Heap.size_push]
    rcases List.mem_cons.mp hb with rfl | hb
    · exact Nat.lt_succ_self _
    · rw [List.mem_singleton.mp hb]; exact Nat.lt_succ_of_lt (Heap.lt_size hol)
  · intro i v hv
    right
    simp only [List.getElem?_toArray, List.getElem?_map, Option.map_eq_some_iff] at hv
    obtain ⟨b, hb, rfl⟩ := hv
    exact ⟨b, rfl, by simp [List.getD, hb]⟩
  · intro s' t' hm
    obtain ⟨hp, g, d, tk, os⟩ := s'
    obtain ⟨hk, hg, hd, ho, ht⟩ := hm
    have k2 : ∀ b o, s.heap.get? b = some o → hp.get? b = some o := fun b o e => hk b o (fun hb => absurd (Heap.lt_size e) (by rw [List.mem_singleton.mp hb]; exact Nat.lt_irrefl _)) (Heap.get?_push_of_some _ e)
    have := h hp tk t' (F.keeps k2) (N.grown k2)
    obtain rfl : g = s.gens := hg
    obtain rfl : d = s.drawn := hd
    obtain rfl : os = s.os := ho
    rw [show (bs.map Value.bool).toArray.size = bs.length by simp]
    exact this
end
end

section
noncomputable abbrev qm (b : Bool) : Str := if b = true then Str.ofString "\"" else Str.empty
noncomputable def toldL (b0 b1 b2 b3 : Bool) (p0 p1 p2 p3 : Str) : List Str := [qm b0 ++ p0, qm b1 ++ p1, qm b2 ++ p2, qm b3 ++ p3]
theorem len_app (x y : Str) : (x ++ y).length = x.length + y.length := by show (x.cps ++ y.cps).size = _; rw [Array.size_append]; rfl
theorem qm_len (b : Bool) : (qm b).length ≤ 1 := by cases b <;> decide
theorem join4 (a b c d : Str) : (Txt.join (Str.ofString "") [a, b, c, d]).length = a.length + b.length + c.length + d.length := by
  simp only [Txt.join, Builtin.Str.glued, Str.length, List.drop_succ_cons, List.drop_zero, List.foldl_cons, List.foldl_nil, List.headD_cons, Array.size_append, show (Str.ofString "").cps.size = 0 by decide]
  omega
theorem join_lt {b0 b1 b2 b3 : Bool} {p0 p1 p2 p3 : Str} (hp0 : p0.length < 10) (hp1 : p1.length < 10) (hp2 : p2.length < 10) (hp3 : p3.length < 10) : (Txt.join (Str.ofString "") (toldL b0 b1 b2 b3 p0 p1 p2 p3)).length < 50 := by
  have q0 := qm_len b0; have q1 := qm_len b1; have q2 := qm_len b2; have q3 := qm_len b3
  rw [toldL, join4]
  simp only [len_app]
  omega
theorem mul_le2 {c : Str} {n : Int} (hc : c.length < 2) (h0 : 0 ≤ n) (h1 : n < 2) : (Txt.mul c n).length ≤ 2 := by
  have hm : ((Txt.mul c n).length : Int) ≤ 2 := by
    rw [len_mul, if_neg (by simpa using h0)]
    have : c.length = 0 ∨ c.length = 1 := by omega
    have : n = 0 ∨ n = 1 := by omega
    rcases ‹c.length = 0 ∨ _› with h | h <;> rcases ‹n = 0 ∨ _› with h' | h' <;> rw [h, h'] <;> decide
  omega
theorem told_len {b0 b1 b2 b3 : Bool} {c p0 p1 p2 p3 : Str} {n : Int} (hp0 : p0.length < 10) (hp1 : p1.length < 10) (hp2 : p2.length < 10) (hp3 : p3.length < 10) (hc : c.length < 2) (h0 : 0 ≤ n) (h1 : n < 2) :
    (Txt.join (Str.ofString "") (toldL b0 b1 b2 b3 p0 p1 p2 p3) ++ Txt.mul c n).length < 100 := by
  have q0 := qm_len b0; have q1 := qm_len b1; have q2 := qm_len b2; have q3 := qm_len b3
  have hm : ((Txt.mul c n).length : Int) ≤ 2 := by
    rw [len_mul, if_neg (by simpa using h0)]
    have : c.length = 0 ∨ c.length = 1 := by omega
    have : n = 0 ∨ n = 1 := by omega
    rcases ‹c.length = 0 ∨ _› with h | h <;> rcases ‹n = 0 ∨ _› with h' | h' <;> rw [h, h'] <;> decide
  rw [len_app, toldL, join4]
  simp only [len_app]
  omega
end

section
theorem told_fit {b0 b1 b2 b3 : Bool} {p0 p1 p2 p3 : Str} (hp0 : p0.length < 10) (hp1 : p1.length < 10) (hp2 : p2.length < 10) (hp3 : p3.length < 10) : ((toldL b0 b1 b2 b3 p0 p1 p2 p3).map (·.length)).sum + (toldL b0 b1 b2 b3 p0 p1 p2 p3).length ≤ 1048576 := by
  have h0 := qm_len b0; have h1 := qm_len b1; have h2 := qm_len b2; have h3 := qm_len b3
  simp only [toldL, List.map_cons, List.map_nil, List.sum_cons, List.sum_nil, List.length_cons, List.length_nil, len_app]
  omega
noncomputable def cnt4 (b0 b1 b2 b3 : Bool) : Int := preSum (fun i => if [b0, b1, b2, b3].getD i false = true then 1 else 0) 4
theorem cnt4_rng (b0 b1 b2 b3 : Bool) : 0 ≤ cnt4 b0 b1 b2 b3 ∧ cnt4 b0 b1 b2 b3 ≤ 4 := by cases b0 <;> cases b1 <;> cases b2 <;> cases b3 <;> decide


noncomputable def toldF (b0 b1 b2 b3 : Bool) (c p0 p1 p2 p3 : Str) : Str := stripF (Txt.join (Str.ofString "") (toldL b0 b1 b2 b3 p0 p1 p2 p3) ++ Txt.mul c ((cnt4 b0 b1 b2 b3).fmod 2))

set_option maxHeartbeats 0 in
theorem c_told (w : World) (lp np lr nr : Nat) (b0 b1 b2 b3 : Bool) (c : Str) (t : Tok) (hc : c.length < 2) (p0 p1 p2 p3 : Str) (t0 t1 t2 t3 : Tok) (hp0 : p0.length < 10) (hp1 : p1.length < 10) (hp2 : p2.length < 10) (hp3 : p3.length < 10) (news : List (Addr × Obj)) (hm : (lp, listOf [.str p0 t0, .str p1 t1, .str p2 t2, .str p3 t3].toArray np) ∈ news) (hm2 : (lr, listOf [.bool b0, .bool b1, .bool b2, .bool b3].toArray nr) ∈ news) : Ctr w 40 400 151 [.ref lr, .ref lp, .str c t] news (RetGen (fun t => .str (toldF b0 b1 b2 b3 c p0 p1 p2 p3) t) news) := by
  k_with "LeaveK" => (k_dflt (refine' leaveM ?hM ?hN ?G ?k1 ?k2 ?sub ?_; (case G => assumption); (case hM => assumption); (case hN => assumption); (case k1 => k_asm); (case k2 => k_asm); (case sub => lcg_sub)); intro kF kN kM; (try dsimp only))
  k_with "CompSrcT" => (k_here; k_dflt (first | (refine LCt.CompSrcT.range (n := 4) (by rfl) (by k_asm) (by k_asm) (by assumption) (by first | decide | rfl) (by first | rfl | decide) (by first | size_fits | exact Nat.le_of_ble_eq_true rfl) ?_; intro g') | (refine LCt.CompSrcT.range (n := 3) (by rfl) (by k_asm) (by k_asm) (by assumption) (by first | decide | rfl) (by first | rfl | decide) (by first | size_fits | exact Nat.le_of_ble_eq_true rfl) ?_; intro g') | (refine LCt.CompSrcT.range (n := 2) (by rfl) (by k_asm) (by k_asm) (by assumption) (by first | decide | rfl) (by first | rfl | decide) (by first | size_fits | exact Nat.le_of_ble_eq_true rfl) ?_; intro g') | (refine LCt.CompSrcT.range (n := 1) (by rfl) (by k_asm) (by k_asm) (by assumption) (by first | decide | rfl) (by first | rfl | decide) (by first | size_fits | exact Nat.le_of_ble_eq_true rfl) ?_; intro g') | (refine LCt.CompSrcT.range (n := 0) (by rfl) (by k_asm) (by k_asm) (by assumption) (by first | decide | rfl) (by first | rfl | decide) (by first | size_fits | exact Nat.le_of_ble_eq_true rfl) ?_; intro g')))
  k_with "CompRestT" => (refine stop_out ?_)
  k_with "TurnT" => (refine TurnT.mk (by first | exact fun _ h => h | lcg_sub) ?_ (by first | exact StrIs.mk | exact IntIs.mk (by first | rfl | decide | omega)); (try dsimp only); first | assumption | (with_unfolding_all exact decide_eq_true (by assumption)) | (simp_all; done))
  k_with "TurnF" => (refine TurnF.mk (by first | exact fun _ h => h | lcg_sub) ?_; (try dsimp only); first | assumption | (with_unfolding_all exact decide_eq_false (by assumption)) | (simp_all; done))
  k_with "eval ListComp" => (k_here; (with_reducible show wpAny _ _ (eval (Expr.ListComp _ _ _ _) _) _ _ _); first | (lct_look; lcg_calm; k_dflt (refine LCt.ListComp_T (F₀ := by k_asm) (by with_unfolding_all rfl) (by decide) (by rfl) (by decide) (by rfl) ?_); k_dflt lct_toSrc) | (lcf_look; lcg_calm; k_dflt (refine LCg.ListComp_U (F₀ := by k_asm) (by with_unfolding_all rfl) (by decide) (by rfl) (by decide) (by rfl) ?_); k_dflt lcg_toSrc) | (lcg_look; lcg_calm; k_dflt (refine LCg.ListComp_U (F₀ := by k_asm) (by rfl) (by decide) (by rfl) (by decide) (by rfl) ?_); k_dflt lcg_toSrc))
  k_with "binaryOp Mult ref int" => (k_here; (with_reducible show wpAny _ _ (binaryOp Operator.Mult (Value.ref _) (Value.int _ _)) _ _ _); k_dflt (refine' KMa.mul ?F ?N ?l ?lo ?hi ?z ?e ?_; (case F => k_asm); (case N => k_asm); (case l => is_list); (case lo => first | omega | decide); (case hi => first | omega | decide); (case z => (simp only [List.length_cons, List.length_nil]; decide)); (case e => (simp only [Int.sub_zero, Int.sub_self, Int.reduceSub, Int.reduceToNat, Int.toNat_zero, List.replicate_succ, List.replicate_zero, List.flatten_cons, List.flatten_nil, List.cons_append, List.nil_append, List.append_nil]; first | done | exact rfl)); k_whole); intro D' h' F' N' l1; (try k_lt l1); (try k_sweep))
  k_with "CompRest" => (refine stop_out ?_)
  k_with "CompEnd" => k_dflt (first | (refine LCg.CompEnd.intro (by assumption) (by assumption) _ (fun _ h => h) (by assumption) (by lcg_src) ?_) | (refine LCg.CompEnd.intro (by assumption) (by assumption) _ (fun _ h => List.Mem.tail _ h) (by assumption) (by lcg_src) ?_))
  k_with "TurnV" => (refine TurnV.mk (fun _ h => h) (by first | exact StrIs.mk | exact IntIs.mk (by first | rfl | decide | omega) | rfl))
  k_with "FinE" => ((unfold LCg.FinE); intro D' h' tk' F' N' o1'; (replace o1' := off1H o1'); (try simp only [List.nil_append, List.cons_append] at N'); (try simp only [List.nil_append, List.cons_append] at o1'); (try dsimp only))
  k_with "FinA" => ((unfold LCg.FinA); intro D' h' tk' F' N' o1'; (replace o1' := off1H o1'); (try simp only [List.nil_append, List.cons_append] at N'); (try simp only [List.nil_append, List.cons_append] at o1'); (try dsimp only))
  k_with "subscriptTail Name Name ref int" => (k_here; (with_reducible show wpAny _ _ (subscriptTail _ _ (Value.ref _) (Value.int _ _)) _ _ _); k_dflt (refine' item_led ?N ?m ?a ?b ?x ?_; (case N => k_asm); (case m => k_mem); (case a => decide); (case b => decide); (case x => exact rfl)))
  k_with "subscriptTail Name Constant ref int" => (k_here; (with_reducible show wpAny _ _ (subscriptTail _ _ (Value.ref _) (Value.int _ _)) _ _ _); k_dflt (refine' item_led ?N ?m ?a ?b ?x ?_; (case N => k_asm); (case m => k_mem); (case a => decide); (case b => decide); (case x => exact rfl)))
  k_with "subscriptTail Name BinOp ref int" => (k_here; (with_reducible show wpAny _ _ (subscriptTail _ _ (Value.ref _) (Value.int _ _)) _ _ _); k_dflt (refine' item_led ?N ?m ?a ?b ?x ?_; (case N => k_asm); (case m => k_mem); (case a => decide); (case b => decide); (case x => exact rfl)))
  k_with "eval Name" => (k_here; (with_reducible show wpAny _ _ (eval (Expr.Name _ _) (compEnvC _ _ _ _)) _ _ _); k_dflt (first | (refine' lcf_cell ?N ?c ?m ?d ?_ ?a ?b; (case b => exact rfl); (case a => exact rfl); (case N => k_asm); (case c => exact rfl); (case m => k_mem); (case d => k_asm)) | (refine' LCgL.ld_own ?N ?m ?h ?x ?_ ?a ?b; (case b => exact rfl); (case a => exact rfl); (case N => k_asm); (case x => with_reducible assumption); (case m => k_mem); (case h => with_reducible assumption))))
  k_with "binaryOp Mult str bool" => (k_here; (with_reducible show wpAny _ _ (binaryOp Operator.Mult (Value.str _ _) (Value.bool _)) _ _ _); refine mul_str_bool ?_; intro t9 k9)
  k_with "CompSrc" => (k_here; k_dflt (refine LCg.CompSrc.range (n := 4) (by rfl) (by k_asm) (by k_asm) (by assumption) (by first | decide | rfl) (by first | rfl | decide) (by first | size_fits | exact Nat.le_of_ble_eq_true rfl) ?_; intro g'))
  k_with "call builtin:sum" => (refine stop_out ?_)
  k_with "binaryOp Mult str int" => (refine stop_out ?_)
  k_with "call ref" => (refine stop_out ?_)
  delta Ctr PG lo; k_fill
  intro mean mg mb dp un gd cn cs a ccd cl outer A₀ base h₀ L m s Q E B F X N T hk hd hu hret
  have NA := (news_one (N _ hm) (news_one (N _ hm2) (news_nil (h₀ := h₀) (L := L) (h := s.heap))))
  refine wpAny_call ?_
  k_dflt (refine' enterMC ?k1 ?k2 ?k3 ?kM ?k4 ?k5 ?kA ?kF ?kK ?k6 ?k7 ?k8 ?k9 ?kB ?kD ?_ ?c2 ?c3 ?c4; (case kA => exact rfl); (case kF => exact rfl); (case kK => assumption); (case k1 => k_asm); (case k2 => k_asm); (case k3 => k_asm); (case kM => exact N); (case k4 => exact NA); (case k5 => k_asm); (case k6 => k_is); (case k7 => k_is); (case k8 => ktr_room); (case k9 => first | exact BindsTo.of_eq rfl | exact binds_K (by k_in) rfl (by k_is) rfl rfl rfl); (case kB => exact rfl); (case kD => decide +kernel); (case c2 => exact rfl); (case c3 => exact rfl); (case c4 => exact rfl); k_whole; intro g' L' h' tk' cells' G' FG' F' N' Y' B' X' T' l1; (try k_lt l1); k_cells Y'; (try simp only [List.cons_append, List.nil_append] at N'); (try dsimp only); (try k_lift B'); (try k_fold))
  k_steps
  refine stop_in ?_
  refine restU [StrIs (qm b0 ++ p0), StrIs (qm b1 ++ p1), StrIs (qm b2 ++ p2), StrIs (qm b3 ++ p3)] _ rfl (by lcg_src) ⟨?_, ?_, ?_, ?_, trivial⟩ ?_
  · (intro v' I' oI' C' oC' D' m₂' h' tk' E' ys' hv' hC' hx' F' N' off' ne'; (first | lcg_open hv' | (obtain ⟨t9', hv9'⟩ := hv'; subst hv9')); (try dsimp only); k_steps)
  · (intro v' I' oI' C' oC' D' m₂' h' tk' E' ys' hv' hC' hx' F' N' off' ne'; (first | lcg_open hv' | (obtain ⟨t9', hv9'⟩ := hv'; subst hv9')); (try dsimp only); k_steps)
  · (intro v' I' oI' C' oC' D' m₂' h' tk' E' ys' hv' hC' hx' F' N' off' ne'; (first | lcg_open hv' | (obtain ⟨t9', hv9'⟩ := hv'; subst hv9')); (try dsimp only); k_steps)
  · (intro v' I' oI' C' oC' D' m₂' h' tk' E' ys' hv' hC' hx' F' N' off' ne'; (first | lcg_open hv' | (obtain ⟨t9', hv9'⟩ := hv'; subst hv9')); (try dsimp only); k_steps)
  intro ys9 hys9
  obtain ⟨y0, y1, y2, y3, rfl, ⟨_, rfl⟩, ⟨_, rfl⟩, ⟨_, rfl⟩, ⟨_, rfl⟩⟩ := hys9.four
  k_steps
  refine join_listW (ys := toldL b0 b1 b2 b3 p0 p1 p2 p3) (News.isList (by assumption) (.head _)) (.cons _ _ (.cons _ _ (.cons _ _ (.cons _ _ .nil)))) (by decide) (told_fit hp0 hp1 hp2 hp3) ?_
  intro t9 k9
  k_steps
  refine stop_in ?_
  refine sum_bools (bs := [b0, b1, b2, b3]) rfl (by k_asm) (by k_asm) (by is_list) ?_
  intro h9 tk9 u9 F9 N9
  rw [show preSum (fun i => if [b0, b1, b2, b3].getD i false = true then 1 else 0) [b0, b1, b2, b3].length = cnt4 b0 b1 b2 b3 from rfl]
  k_steps
  have hm0 : 0 ≤ (cnt4 b0 b1 b2 b3).fmod 2 := fmod_lo _ (by decide)
  have hm1 : (cnt4 b0 b1 b2 b3).fmod 2 < 2 := fmod_hi _ (by decide)
  refine stop_in ?_
  refine SB.mul (mulOk_of 16 1048576 (by omega) (by omega) (by omega) (by decide) (by decide)) fun t8 k8 => ?_
  have hj9 := join_lt (b0 := b0) (b1 := b1) (b2 := b2) (b3 := b3) hp0 hp1 hp2 hp3
  have hm9 := mul_le2 hc hm0 hm1
  k_steps
  refine stop_in ?_
  refine' use_ctr (c_strip w _ (told_len hp0 hp1 hp2 hp3 hc hm0 hm1) _ _) ?k1 ?k2 ?k3 ?k4 ?k5 ?kK ?kd ?ku ?_
  (case k1 => k_asm)
  (case k2 => k_asm)
  (case k3 => k_asm)
  (case k4 => k_asm)
  (case k5 => k_asm)
  (case kK => first | exact rfl | assumption)
  (case kd => ktr_room)
  (case ku => ktr_units)
  intro t7 h7 tk7 gens7 A7 F7 N7
  (try dsimp only)
  k_steps
  exact hret _ _ _ _ (by assumption) (by assumption) (by assumption)
  k_with_none
end

section
set_option maxHeartbeats 0 in
theorem c_due (w : World) (x : Int) (h0 : 0 ≤ x) (h1 : x < 16) (t : Tok) (lp np : Nat) (p0 p1 p2 p3 : Str) (t0 t1 t2 t3 : Tok) (hp0 : p0.length < 10) (hp1 : p1.length < 10) (hp2 : p2.length < 10) (hp3 : p3.length < 10) (news : List (Addr × Obj)) (hm : (lp, listOf [.str p0 t0, .str p1 t1, .str p2 t2, .str p3 t3].toArray np) ∈ news) : Ctr w 5 50 156 [.int x t, .ref lp] news (RetVal (fun t => .str (dueF x p0 p1 p2 p3) t) news) := by
  k_with "LeaveK" => (k_dflt (refine' leaveM ?hM ?hN ?G ?k1 ?k2 ?sub ?_; (case G => assumption); (case hM => assumption); (case hN => assumption); (case k1 => k_asm); (case k2 => k_asm); (case sub => lcg_sub)); intro kF kN kM; (try dsimp only))
  k_with "CompSrcT" => (k_here; k_dflt (first | (refine LCt.CompSrcT.range (n := 4) (by rfl) (by k_asm) (by k_asm) (by assumption) (by first | decide | rfl) (by first | rfl | decide) (by first | size_fits | exact Nat.le_of_ble_eq_true rfl) ?_; intro g') | (refine LCt.CompSrcT.range (n := 3) (by rfl) (by k_asm) (by k_asm) (by assumption) (by first | decide | rfl) (by first | rfl | decide) (by first | size_fits | exact Nat.le_of_ble_eq_true rfl) ?_; intro g') | (refine LCt.CompSrcT.range (n := 2) (by rfl) (by k_asm) (by k_asm) (by assumption) (by first | decide | rfl) (by first | rfl | decide) (by first | size_fits | exact Nat.le_of_ble_eq_true rfl) ?_; intro g') | (refine LCt.CompSrcT.range (n := 1) (by rfl) (by k_asm) (by k_asm) (by assumption) (by first | decide | rfl) (by first | rfl | decide) (by first | size_fits | exact Nat.le_of_ble_eq_true rfl) ?_; intro g') | (refine LCt.CompSrcT.range (n := 0) (by rfl) (by k_asm) (by k_asm) (by assumption) (by first | decide | rfl) (by first | rfl | decide) (by first | size_fits | exact Nat.le_of_ble_eq_true rfl) ?_; intro g')))
  k_with "CompRestT" => (refine stop_out ?_)
  k_with "TurnT" => (refine TurnT.mk (by first | exact fun _ h => h | lcg_sub) ?_ (by first | exact StrIs.mk | exact IntIs.mk (by first | rfl | decide | omega)); (try dsimp only); first | assumption | (with_unfolding_all exact decide_eq_true (by assumption)) | (simp_all; done))
  k_with "TurnF" => (refine TurnF.mk (by first | exact fun _ h => h | lcg_sub) ?_; (try dsimp only); first | assumption | (with_unfolding_all exact decide_eq_false (by assumption)) | (simp_all; done))
  k_with "eval ListComp" => (k_here; (with_reducible show wpAny _ _ (eval (Expr.ListComp _ _ _ _) _) _ _ _); first | (lct_look; lcg_calm; k_dflt (refine LCt.ListComp_T (F₀ := by k_asm) (by with_unfolding_all rfl) (by decide) (by rfl) (by decide) (by rfl) ?_); k_dflt lct_toSrc) | (lcf_look; lcg_calm; k_dflt (refine LCg.ListComp_U (F₀ := by k_asm) (by with_unfolding_all rfl) (by decide) (by rfl) (by decide) (by rfl) ?_); k_dflt lcg_toSrc) | (lcg_look; lcg_calm; k_dflt (refine LCg.ListComp_U (F₀ := by k_asm) (by rfl) (by decide) (by rfl) (by decide) (by rfl) ?_); k_dflt lcg_toSrc))
  k_with "binaryOp Mult ref int" => (k_here; (with_reducible show wpAny _ _ (binaryOp Operator.Mult (Value.ref _) (Value.int _ _)) _ _ _); k_dflt (refine' KMa.mul ?F ?N ?l ?lo ?hi ?z ?e ?_; (case F => k_asm); (case N => k_asm); (case l => is_list); (case lo => first | omega | decide); (case hi => first | omega | decide); (case z => (simp only [List.length_cons, List.length_nil]; decide)); (case e => (simp only [Int.sub_zero, Int.sub_self, Int.reduceSub, Int.reduceToNat, Int.toNat_zero, List.replicate_succ, List.replicate_zero, List.flatten_cons, List.flatten_nil, List.cons_append, List.nil_append, List.append_nil]; first | done | exact rfl)); k_whole); intro D' h' F' N' l1; (try k_lt l1); (try k_sweep))
  k_with "CompRest" => (refine stop_out ?_)
  k_with "CompEnd" => k_dflt (first | (refine LCg.CompEnd.intro (by assumption) (by assumption) _ (fun _ h => h) (by assumption) (by lcg_src) ?_) | (refine LCg.CompEnd.intro (by assumption) (by assumption) _ (fun _ h => List.Mem.tail _ h) (by assumption) (by lcg_src) ?_))
  k_with "TurnV" => (refine TurnV.mk (fun _ h => h) (by first | exact StrIs.mk | exact IntIs.mk (by first | rfl | decide | omega) | rfl))
  k_with "FinE" => ((unfold LCg.FinE); intro D' h' tk' F' N' o1'; (replace o1' := off1H o1'); (try simp only [List.nil_append, List.cons_append] at N'); (try simp only [List.nil_append, List.cons_append] at o1'); (try dsimp only))
  k_with "FinA" => ((unfold LCg.FinA); intro D' h' tk' F' N' o1'; (replace o1' := off1H o1'); (try simp only [List.nil_append, List.cons_append] at N'); (try simp only [List.nil_append, List.cons_append] at o1'); (try dsimp only))
  k_with "subscriptTail Name Name ref int" => (k_here; (with_reducible show wpAny _ _ (subscriptTail _ _ (Value.ref _) (Value.int _ _)) _ _ _); k_dflt (refine' item_led ?N ?m ?a ?b ?x ?_; (case N => k_asm); (case m => k_mem); (case a => decide); (case b => decide); (case x => exact rfl)))
  k_with "subscriptTail Name Constant ref int" => (k_here; (with_reducible show wpAny _ _ (subscriptTail _ _ (Value.ref _) (Value.int _ _)) _ _ _); k_dflt (refine' item_led ?N ?m ?a ?b ?x ?_; (case N => k_asm); (case m => k_mem); (case a => decide); (case b => decide); (case x => exact rfl)))
  k_with "subscriptTail Name BinOp ref int" => (k_here; (with_reducible show wpAny _ _ (subscriptTail _ _ (Value.ref _) (Value.int _ _)) _ _ _); k_dflt (refine' item_led ?N ?m ?a ?b ?x ?_; (case N => k_asm); (case m => k_mem); (case a => decide); (case b => decide); (case x => exact rfl)))
  k_with "eval Name" => (k_here; (with_reducible show wpAny _ _ (eval (Expr.Name _ _) (compEnvC _ _ _ _)) _ _ _); k_dflt (first | (refine' lcf_cell ?N ?c ?m ?d ?_ ?a ?b; (case b => exact rfl); (case a => exact rfl); (case N => k_asm); (case c => exact rfl); (case m => k_mem); (case d => k_asm)) | (refine' LCgL.ld_own ?N ?m ?h ?x ?_ ?a ?b; (case b => exact rfl); (case a => exact rfl); (case N => k_asm); (case x => with_reducible assumption); (case m => k_mem); (case h => with_reducible assumption))))
  delta Ctr PG lo; k_fill
  intro mean mg mb dp un gd cn cs a ccd cl outer A₀ base h₀ L m s Q E B F X N T hk hd hu hret
  have NA := (news_one (N _ hm) (news_nil (h₀ := h₀) (L := L) (h := s.heap)))
  refine wpAny_call ?_
  k_dflt (refine' enterMC ?k1 ?k2 ?k3 ?kM ?k4 ?k5 ?kA ?kF ?kK ?k6 ?k7 ?k8 ?k9 ?kB ?kD ?_ ?c2 ?c3 ?c4; (case kA => exact rfl); (case kF => exact rfl); (case kK => assumption); (case k1 => k_asm); (case k2 => k_asm); (case k3 => k_asm); (case kM => exact N); (case k4 => exact NA); (case k5 => k_asm); (case k6 => k_is); (case k7 => k_is); (case k8 => ktr_room); (case k9 => first | exact BindsTo.of_eq rfl | exact binds_K (by k_in) rfl (by k_is) rfl rfl rfl); (case kB => exact rfl); (case kD => decide +kernel); (case c2 => exact rfl); (case c3 => exact rfl); (case c4 => exact rfl); k_whole; intro g' L' h' tk' cells' G' FG' F' N' Y' B' X' T' l1; (try k_lt l1); k_cells Y'; (try simp only [List.cons_append, List.nil_append] at N'); (try dsimp only); (try k_lift B'); (try k_fold))
  k_steps
  refine stop_in ?_
  refine restT [(bitZ x 8, StrIs p0), (bitZ x 4, StrIs p1), (bitZ x 2, StrIs p2), (bitZ x 1, StrIs p3)] _ rfl trivial ⟨?_, ?_, ?_, ?_, trivial⟩ ?_
  · (intro v' I' oI' C' oC' D' m' h' tk' E' ys' hv' hC' hx' F' N' off' ne'; (first | lcg_open hv' | (obtain ⟨t9', hv9'⟩ := hv'; subst hv9'; replace hx' : _ = some (Value.int 0 t9') := hx')); (try dsimp only); k_steps)
  · (intro v' I' oI' C' oC' D' m' h' tk' E' ys' hv' hC' hx' F' N' off' ne'; (first | lcg_open hv' | (obtain ⟨t9', hv9'⟩ := hv'; subst hv9'; replace hx' : _ = some (Value.int 1 t9') := hx')); (try dsimp only); k_steps)
  · (intro v' I' oI' C' oC' D' m' h' tk' E' ys' hv' hC' hx' F' N' off' ne'; (first | lcg_open hv' | (obtain ⟨t9', hv9'⟩ := hv'; subst hv9'; replace hx' : _ = some (Value.int 2 t9') := hx')); (try dsimp only); k_steps)
  · (intro v' I' oI' C' oC' D' m' h' tk' E' ys' hv' hC' hx' F' N' off' ne'; (first | lcg_open hv' | (obtain ⟨t9', hv9'⟩ := hv'; subst hv9'; replace hx' : _ = some (Value.int 3 t9') := hx')); (try dsimp only); k_steps)
  intro ys hys
  k_steps
  refine join_listW (News.isList (by assumption) (by k_mem)) (strsAre_filt (l := [(bitZ x 8, p0), (bitZ x 4, p1), (bitZ x 2, p2), (bitZ x 1, p3)]) hys) (by decide) (filtS_fits _ (by simp [hp0, hp1, hp2, hp3]) (by simp)) ?_
  intro t9 k9
  k_steps
  exact hret _ _ _ (by assumption) (by assumption)
  k_with_none
end

section
set_option maxHeartbeats 0 in
theorem c_free (w : World) (lr nr : Nat) (b0 b1 b2 b3 : Bool) (news : List (Addr × Obj)) (hm : (lr, listOf [.bool b0, .bool b1, .bool b2, .bool b3].toArray nr) ∈ news) : Ctr w 5 150 173 [.ref lr] news (RetInts (freeL b1 b2 b3) news) := by
  k_with "LeaveK" => (k_dflt (refine' leaveM ?hM ?hN ?G ?k1 ?k2 ?sub ?_; (case G => assumption); (case hM => assumption); (case hN => assumption); (case k1 => k_asm); (case k2 => k_asm); (case sub => lcg_sub)); intro kF kN kM; (try dsimp only))
  k_with "CompSrcT" => (k_here; k_dflt (first | (refine LCt.CompSrcT.range (n := 4) (by rfl) (by k_asm) (by k_asm) (by assumption) (by first | decide | rfl) (by first | rfl | decide) (by first | size_fits | exact Nat.le_of_ble_eq_true rfl) ?_; intro g') | (refine LCt.CompSrcT.range (n := 3) (by rfl) (by k_asm) (by k_asm) (by assumption) (by first | decide | rfl) (by first | rfl | decide) (by first | size_fits | exact Nat.le_of_ble_eq_true rfl) ?_; intro g') | (refine LCt.CompSrcT.range (n := 2) (by rfl) (by k_asm) (by k_asm) (by assumption) (by first | decide | rfl) (by first | rfl | decide) (by first | size_fits | exact Nat.le_of_ble_eq_true rfl) ?_; intro g') | (refine LCt.CompSrcT.range (n := 1) (by rfl) (by k_asm) (by k_asm) (by assumption) (by first | decide | rfl) (by first | rfl | decide) (by first | size_fits | exact Nat.le_of_ble_eq_true rfl) ?_; intro g') | (refine LCt.CompSrcT.range (n := 0) (by rfl) (by k_asm) (by k_asm) (by assumption) (by first | decide | rfl) (by first | rfl | decide) (by first | size_fits | exact Nat.le_of_ble_eq_true rfl) ?_; intro g')))
  k_with "CompRestT" => (refine stop_out ?_)
  k_with "TurnT" => (refine TurnT.mk (by first | exact fun _ h => h | lcg_sub) ?_ (by first | exact StrIs.mk | exact IntIs.mk (by first | rfl | decide | omega)); (try dsimp only); first | assumption | (with_unfolding_all exact decide_eq_true (by assumption)) | (simp_all; done))
  k_with "TurnF" => (refine TurnF.mk (by first | exact fun _ h => h | lcg_sub) ?_; (try dsimp only); first | assumption | (with_unfolding_all exact decide_eq_false (by assumption)) | (simp_all; done))
  k_with "eval ListComp" => (k_here; (with_reducible show wpAny _ _ (eval (Expr.ListComp _ _ _ _) _) _ _ _); first | (lct_look; lcg_calm; k_dflt (refine LCt.ListComp_T (F₀ := by k_asm) (by with_unfolding_all rfl) (by decide) (by rfl) (by decide) (by rfl) ?_); k_dflt lct_toSrc) | (lcf_look; lcg_calm; k_dflt (refine LCg.ListComp_U (F₀ := by k_asm) (by with_unfolding_all rfl) (by decide) (by rfl) (by decide) (by rfl) ?_); k_dflt lcg_toSrc) | (lcg_look; lcg_calm; k_dflt (refine LCg.ListComp_U (F₀ := by k_asm) (by rfl) (by decide) (by rfl) (by decide) (by rfl) ?_); k_dflt lcg_toSrc))
  k_with "binaryOp Mult ref int" => (k_here; (with_reducible show wpAny _ _ (binaryOp Operator.Mult (Value.ref _) (Value.int _ _)) _ _ _); k_dflt (refine' KMa.mul ?F ?N ?l ?lo ?hi ?z ?e ?_; (case F => k_asm); (case N => k_asm); (case l => is_list); (case lo => first | omega | decide); (case hi => first | omega | decide); (case z => (simp only [List.length_cons, List.length_nil]; decide)); (case e => (simp only [Int.sub_zero, Int.sub_self, Int.reduceSub, Int.reduceToNat, Int.toNat_zero, List.replicate_succ, List.replicate_zero, List.flatten_cons, List.flatten_nil, List.cons_append, List.nil_append, List.append_nil]; first | done | exact rfl)); k_whole); intro D' h' F' N' l1; (try k_lt l1); (try k_sweep))
  k_with "CompRest" => (refine stop_out ?_)
  k_with "CompEnd" => k_dflt (first | (refine LCg.CompEnd.intro (by assumption) (by assumption) _ (fun _ h => h) (by assumption) (by lcg_src) ?_) | (refine LCg.CompEnd.intro (by assumption) (by assumption) _ (fun _ h => List.Mem.tail _ h) (by assumption) (by lcg_src) ?_))
  k_with "TurnV" => (refine TurnV.mk (fun _ h => h) (by first | exact StrIs.mk | exact IntIs.mk (by first | rfl | decide | omega) | rfl))
  k_with "FinE" => ((unfold LCg.FinE); intro D' h' tk' F' N' o1'; (replace o1' := off1H o1'); (try simp only [List.nil_append, List.cons_append] at N'); (try simp only [List.nil_append, List.cons_append] at o1'); (try dsimp only))
  k_with "FinA" => ((unfold LCg.FinA); intro D' h' tk' F' N' o1'; (replace o1' := off1H o1'); (try simp only [List.nil_append, List.cons_append] at N'); (try simp only [List.nil_append, List.cons_append] at o1'); (try dsimp only))
  k_with "subscriptTail Name Name ref int" => (k_here; (with_reducible show wpAny _ _ (subscriptTail _ _ (Value.ref _) (Value.int _ _)) _ _ _); k_dflt (refine' item_led ?N ?m ?a ?b ?x ?_; (case N => k_asm); (case m => k_mem); (case a => decide); (case b => decide); (case x => exact rfl)))
  k_with "subscriptTail Name Constant ref int" => (k_here; (with_reducible show wpAny _ _ (subscriptTail _ _ (Value.ref _) (Value.int _ _)) _ _ _); k_dflt (refine' item_led ?N ?m ?a ?b ?x ?_; (case N => k_asm); (case m => k_mem); (case a => decide); (case b => decide); (case x => exact rfl)))
  k_with "subscriptTail Name BinOp ref int" => (k_here; (with_reducible show wpAny _ _ (subscriptTail _ _ (Value.ref _) (Value.int _ _)) _ _ _); k_dflt (refine' item_led ?N ?m ?a ?b ?x ?_; (case N => k_asm); (case m => k_mem); (case a => decide); (case b => decide); (case x => exact rfl)))
  k_with "eval Name" => (k_here; (with_reducible show wpAny _ _ (eval (Expr.Name _ _) (compEnvC _ _ _ _)) _ _ _); k_dflt (first | (refine' lcf_cell ?N ?c ?m ?d ?_ ?a ?b; (case b => exact rfl); (case a => exact rfl); (case N => k_asm); (case c => exact rfl); (case m => k_mem); (case d => k_asm)) | (refine' LCgL.ld_own ?N ?m ?h ?x ?_ ?a ?b; (case b => exact rfl); (case a => exact rfl); (case N => k_asm); (case x => with_reducible assumption); (case m => k_mem); (case h => with_reducible assumption))))
  delta Ctr PG lo; k_fill
  intro mean mg mb dp un gd cn cs a ccd cl outer A₀ base h₀ L m s Q E B F X N T hk hd hu hret
  have NA := (news_one (N _ hm) (news_nil (h₀ := h₀) (L := L) (h := s.heap)))
  refine wpAny_call ?_
  k_dflt (refine' enterMC ?k1 ?k2 ?k3 ?kM ?k4 ?k5 ?kA ?kF ?kK ?k6 ?k7 ?k8 ?k9 ?kB ?kD ?_ ?c2 ?c3 ?c4; (case kA => exact rfl); (case kF => exact rfl); (case kK => assumption); (case k1 => k_asm); (case k2 => k_asm); (case k3 => k_asm); (case kM => exact N); (case k4 => exact NA); (case k5 => k_asm); (case k6 => k_is); (case k7 => k_is); (case k8 => ktr_room); (case k9 => first | exact BindsTo.of_eq rfl | exact binds_K (by k_in) rfl (by k_is) rfl rfl rfl); (case kB => exact rfl); (case kD => decide +kernel); (case c2 => exact rfl); (case c3 => exact rfl); (case c4 => exact rfl); k_whole; intro g' L' h' tk' cells' G' FG' F' N' Y' B' X' T' l1; (try k_lt l1); k_cells Y'; (try simp only [List.cons_append, List.nil_append] at N'); (try dsimp only); (try k_lift B'); (try k_fold))
  k_steps
  refine stop_in ?_
  refine restT [((b1 == true && (b2 == false && b3 == false)), IntIs 0), ((b2 == true && b3 == false), IntIs 1), ((b3 == true), IntIs 2)] _ rfl trivial ⟨?_, ?_, ?_, trivial⟩ ?_
  · (intro v' I' oI' C' oC' D' m' h' tk' E' ys' hv' hC' hx' F' N' off' ne'; (first | lcg_open hv' | (obtain ⟨t9', hv9'⟩ := hv'; subst hv9'; replace hx' : _ = some (Value.int 0 t9') := hx')); (replace off' := off3H off'); (replace ne' := ne3H ne'); (simp only [Off3H, and_true] at off'); (repeat (rename NeH _ _ ∧ _ => hA9; obtain ⟨_, _⟩ := hA9)); k_steps)
  · (intro v' I' oI' C' oC' D' m' h' tk' E' ys' hv' hC' hx' F' N' off' ne'; (first | lcg_open hv' | (obtain ⟨t9', hv9'⟩ := hv'; subst hv9'; replace hx' : _ = some (Value.int 1 t9') := hx')); (replace off' := off3H off'); (replace ne' := ne3H ne'); (simp only [Off3H, and_true] at off'); (repeat (rename NeH _ _ ∧ _ => hA9; obtain ⟨_, _⟩ := hA9)); k_steps)
  · (intro v' I' oI' C' oC' D' m' h' tk' E' ys' hv' hC' hx' F' N' off' ne'; (first | lcg_open hv' | (obtain ⟨t9', hv9'⟩ := hv'; subst hv9'; replace hx' : _ = some (Value.int 2 t9') := hx')); (replace off' := off3H off'); (replace ne' := ne3H ne'); (simp only [Off3H, and_true] at off'); (repeat (rename NeH _ _ ∧ _ => hA9; obtain ⟨_, _⟩ := hA9)); k_steps)
  intro ys hys
  have hI := intsAre_filt (l := [((b1 == true && (b2 == false && b3 == false)), 0), ((b2 == true && b3 == false), 1), ((b3 == true), 2)]) hys
  k_steps
  exact hret _ _ _ _ _ (by assumption) (news_add (by assumption) (by assumption)) (new_ne (by assumption) (by assumption) (by k_all)) (by assumption)
  k_with_none
end

section
set_option maxHeartbeats 0 in
theorem c_open (w : World) (x : Int) (h0 : 0 ≤ x) (h1 : x < 16) (t : Tok) (lp np lr nr : Nat) (b0 b1 b2 b3 : Bool) (hb : (b0 || b1 || b2 || b3) = true) (p0 p1 p2 p3 : Str) (t0 t1 t2 t3 : Tok) (hp0 : p0.length < 10) (hp1 : p1.length < 10) (hp2 : p2.length < 10) (hp3 : p3.length < 10) (news : List (Addr × Obj)) (hm : (lp, listOf [.str p0 t0, .str p1 t1, .str p2 t2, .str p3 t3].toArray np) ∈ news) (hm2 : (lr, listOf [.bool b0, .bool b1, .bool b2, .bool b3].toArray nr) ∈ news) : Ctr w 5 150 161 [.int x t, .ref lp, .ref lr] news (RetVal (fun t => .str (openF x b1 b2 b3 p0 p1 p2 p3) t) news) := by
  k_with "LeaveK" => (k_dflt (refine' leaveM ?hM ?hN ?G ?k1 ?k2 ?sub ?_; (case G => assumption); (case hM => assumption); (case hN => assumption); (case k1 => k_asm); (case k2 => k_asm); (case sub => lcg_sub)); intro kF kN kM; (try dsimp only))
  k_with "CompSrcT" => (k_here; k_dflt (first | (refine LCt.CompSrcT.range (n := 4) (by rfl) (by k_asm) (by k_asm) (by assumption) (by first | decide | rfl) (by first | rfl | decide) (by first | size_fits | exact Nat.le_of_ble_eq_true rfl) ?_; intro g') | (refine LCt.CompSrcT.range (n := 3) (by rfl) (by k_asm) (by k_asm) (by assumption) (by first | decide | rfl) (by first | rfl | decide) (by first | size_fits | exact Nat.le_of_ble_eq_true rfl) ?_; intro g') | (refine LCt.CompSrcT.range (n := 2) (by rfl) (by k_asm) (by k_asm) (by assumption) (by first | decide | rfl) (by first | rfl | decide) (by first | size_fits | exact Nat.le_of_ble_eq_true rfl) ?_; intro g') | (refine LCt.CompSrcT.range (n := 1) (by rfl) (by k_asm) (by k_asm) (by assumption) (by first | decide | rfl) (by first | rfl | decide) (by first | size_fits | exact Nat.le_of_ble_eq_true rfl) ?_; intro g') | (refine LCt.CompSrcT.range (n := 0) (by rfl) (by k_asm) (by k_asm) (by assumption) (by first | decide | rfl) (by first | rfl | decide) (by first | size_fits | exact Nat.le_of_ble_eq_true rfl) ?_; intro g')))
  k_with "CompRestT" => (refine stop_out ?_)
  k_with "TurnT" => (refine TurnT.mk (by first | exact fun _ h => h | lcg_sub) ?_ (by first | exact StrIs.mk | exact IntIs.mk (by first | rfl | decide | omega)); (try dsimp only); first | assumption | (with_unfolding_all exact decide_eq_true (by assumption)) | (simp_all; done))
  k_with "TurnF" => (refine TurnF.mk (by first | exact fun _ h => h | lcg_sub) ?_; (try dsimp only); first | assumption | (with_unfolding_all exact decide_eq_false (by assumption)) | (simp_all; done))
  k_with "eval ListComp" => (k_here; (with_reducible show wpAny _ _ (eval (Expr.ListComp _ _ _ _) _) _ _ _); first | (lct_look; lcg_calm; k_dflt (refine LCt.ListComp_T (F₀ := by k_asm) (by with_unfolding_all rfl) (by decide) (by rfl) (by decide) (by rfl) ?_); k_dflt lct_toSrc) | (lcf_look; lcg_calm; k_dflt (refine LCg.ListComp_U (F₀ := by k_asm) (by with_unfolding_all rfl) (by decide) (by rfl) (by decide) (by rfl) ?_); k_dflt lcg_toSrc) | (lcg_look; lcg_calm; k_dflt (refine LCg.ListComp_U (F₀ := by k_asm) (by rfl) (by decide) (by rfl) (by decide) (by rfl) ?_); k_dflt lcg_toSrc))
  k_with "binaryOp Mult ref int" => (k_here; (with_reducible show wpAny _ _ (binaryOp Operator.Mult (Value.ref _) (Value.int _ _)) _ _ _); k_dflt (refine' KMa.mul ?F ?N ?l ?lo ?hi ?z ?e ?_; (case F => k_asm); (case N => k_asm); (case l => is_list); (case lo => first | omega | decide); (case hi => first | omega | decide); (case z => (simp only [List.length_cons, List.length_nil]; decide)); (case e => (simp only [Int.sub_zero, Int.sub_self, Int.reduceSub, Int.reduceToNat, Int.toNat_zero, List.replicate_succ, List.replicate_zero, List.flatten_cons, List.flatten_nil, List.cons_append, List.nil_append, List.append_nil]; first | done | exact rfl)); k_whole); intro D' h' F' N' l1; (try k_lt l1); (try k_sweep))
  k_with "CompRest" => (refine stop_out ?_)
  k_with "CompEnd" => k_dflt (first | (refine LCg.CompEnd.intro (by assumption) (by assumption) _ (fun _ h => h) (by assumption) (by lcg_src) ?_) | (refine LCg.CompEnd.intro (by assumption) (by assumption) _ (fun _ h => List.Mem.tail _ h) (by assumption) (by lcg_src) ?_))
  k_with "TurnV" => (refine TurnV.mk (fun _ h => h) (by first | exact StrIs.mk | exact IntIs.mk (by first | rfl | decide | omega) | rfl))
  k_with "FinE" => ((unfold LCg.FinE); intro D' h' tk' F' N' o1'; (replace o1' := off1H o1'); (try simp only [List.nil_append, List.cons_append] at N'); (try simp only [List.nil_append, List.cons_append] at o1'); (try dsimp only))
  k_with "FinA" => ((unfold LCg.FinA); intro D' h' tk' F' N' o1'; (replace o1' := off1H o1'); (try simp only [List.nil_append, List.cons_append] at N'); (try simp only [List.nil_append, List.cons_append] at o1'); (try dsimp only))
  k_with "subscriptTail Name Name ref int" => (k_here; (with_reducible show wpAny _ _ (subscriptTail _ _ (Value.ref _) (Value.int _ _)) _ _ _); k_dflt (refine' item_led ?N ?m ?a ?b ?x ?_; (case N => k_asm); (case m => k_mem); (case a => decide); (case b => decide); (case x => exact rfl)))
  k_with "subscriptTail Name Constant ref int" => (k_here; (with_reducible show wpAny _ _ (subscriptTail _ _ (Value.ref _) (Value.int _ _)) _ _ _); k_dflt (refine' item_led ?N ?m ?a ?b ?x ?_; (case N => k_asm); (case m => k_mem); (case a => decide); (case b => decide); (case x => exact rfl)))
  k_with "subscriptTail Name BinOp ref int" => (k_here; (with_reducible show wpAny _ _ (subscriptTail _ _ (Value.ref _) (Value.int _ _)) _ _ _); k_dflt (refine' item_led ?N ?m ?a ?b ?x ?_; (case N => k_asm); (case m => k_mem); (case a => decide); (case b => decide); (case x => exact rfl)))
  k_with "eval Name" => (k_here; (with_reducible show wpAny _ _ (eval (Expr.Name _ _) (compEnvC _ _ _ _)) _ _ _); k_dflt (first | (refine' lcf_cell ?N ?c ?m ?d ?_ ?a ?b; (case b => exact rfl); (case a => exact rfl); (case N => k_asm); (case c => exact rfl); (case m => k_mem); (case d => k_asm)) | (refine' LCgL.ld_own ?N ?m ?h ?x ?_ ?a ?b; (case b => exact rfl); (case a => exact rfl); (case N => k_asm); (case x => with_reducible assumption); (case m => k_mem); (case h => with_reducible assumption))))
  k_with "binaryOp Add ref ref" => (k_here; (with_reducible show wpAny _ _ (binaryOp _ (Value.ref _) (Value.ref _)) _ _ _); k_dflt (refine' kmk_add_lit ?F ?N ?a ?b ?e ?_ ?z; (case F => k_asm); (case N => k_asm); (case a => kmk_list); (case b => kmk_list); (case e => exact rfl); (case z => ((simp only [List.length_append, List.length_cons, List.length_nil]); have hl9 := filtAre_len (by assumption); simp only [List.length_cons, List.length_nil] at hl9; rw [sizeLine_eq]; omega))); intro D' h' F' N' l1; (try k_lt l1); (try k_sweep))
  delta Ctr PG lo; k_fill
  intro mean mg mb dp un gd cn cs a ccd cl outer A₀ base h₀ L m s Q E B F X N T hk hd hu hret
  have NA := (news_one (N _ hm) (news_one (N _ hm2) (news_nil (h₀ := h₀) (L := L) (h := s.heap))))
  refine wpAny_call ?_
  k_dflt (refine' enterMC ?k1 ?k2 ?k3 ?kM ?k4 ?k5 ?kA ?kF ?kK ?k6 ?k7 ?k8 ?k9 ?kB ?kD ?_ ?c2 ?c3 ?c4; (case kA => exact rfl); (case kF => exact rfl); (case kK => assumption); (case k1 => k_asm); (case k2 => k_asm); (case k3 => k_asm); (case kM => exact N); (case k4 => exact NA); (case k5 => k_asm); (case k6 => k_is); (case k7 => k_is); (case k8 => ktr_room); (case k9 => first | exact BindsTo.of_eq rfl | exact binds_K (by k_in) rfl (by k_is) rfl rfl rfl); (case kB => exact rfl); (case kD => decide +kernel); (case c2 => exact rfl); (case c3 => exact rfl); (case c4 => exact rfl); k_whole; intro g' L' h' tk' cells' G' FG' F' N' Y' B' X' T' l1; (try k_lt l1); k_cells Y'; (try simp only [List.cons_append, List.nil_append] at N'); (try dsimp only); (try k_lift B'); (try k_fold))
  k_steps
  refine stop_in ?_
  refine restT [(b0, IntIs 0), (b1, IntIs 1), (b2, IntIs 2), (b3, IntIs 3)] _ rfl trivial ⟨?_, ?_, ?_, ?_, trivial⟩ ?_
  · (intro v' I' oI' C' oC' D' m' h' tk' E' ys' hv' hC' hx' F' N' off' ne'; (first | lcg_open hv' | (obtain ⟨t9', hv9'⟩ := hv'; subst hv9'; replace hx' : _ = some (Value.int 0 t9') := hx')); (try dsimp only); k_steps)
  · (intro v' I' oI' C' oC' D' m' h' tk' E' ys' hv' hC' hx' F' N' off' ne'; (first | lcg_open hv' | (obtain ⟨t9', hv9'⟩ := hv'; subst hv9'; replace hx' : _ = some (Value.int 1 t9') := hx')); (try dsimp only); k_steps)
  · (intro v' I' oI' C' oC' D' m' h' tk' E' ys' hv' hC' hx' F' N' off' ne'; (first | lcg_open hv' | (obtain ⟨t9', hv9'⟩ := hv'; subst hv9'; replace hx' : _ = some (Value.int 2 t9') := hx')); (try dsimp only); k_steps)
  · (intro v' I' oI' C' oC' D' m' h' tk' E' ys' hv' hC' hx' F' N' off' ne'; (first | lcg_open hv' | (obtain ⟨t9', hv9'⟩ := hv'; subst hv9'; replace hx' : _ = some (Value.int 3 t9') := hx')); (try dsimp only); k_steps)
  intro ys hys
  have hI := intsAre_filt (l := [(b0, 0), (b1, 1), (b2, 2), (b3, 3)]) hys
  k_steps
  (with_unfolding_all refine' kso_max ?k1 ?k2 ?k3 ?k4 ?k5 ?k6 ?_)
  (case k1 => k_asm)
  (case k2 => k_asm)
  (case k3 => kso_list)
  (case k4 => exact hI)
  (case k5 => exact onZ_some hb)
  (case k6 => with_unfolding_all rfl)
  intro h' M' t' k' F' N' a' b'
  obtain rfl := onZ_is a' b'
  clear a' b' hI hys
  by_cases c3 : b3 = true
  · rw [show onZ b1 b2 b3 = 3 by simp [onZ, c3]]
    have hret' : RetVal (fun t => .str (Txt.join (Str.ofString "") (filtL [(bitZ x 8, p0), (bitZ x 4, p1), (bitZ x 2, p2)] ++ [Str.ofString "\""] ++ [p3])) t) news h₀ L m s Q := by simpa [openF, openL, c3] using hret
    k_steps
    refine stop_in ?_
    refine restT [(bitZ x 8, StrIs p0), (bitZ x 4, StrIs p1), (bitZ x 2, StrIs p2)] _ rfl trivial ⟨?_, ?_, ?_, trivial⟩ ?_
    · (intro v' I' oI' C' oC' D' m' h' tk' E' ys' hv' hC' hx' F' N' off' ne'; (first | lcg_open hv' | (obtain ⟨t9', hv9'⟩ := hv'; subst hv9'; replace hx' : _ = some (Value.int 0 t9') := hx')); (try dsimp only); k_steps)
    · (intro v' I' oI' C' oC' D' m' h' tk' E' ys' hv' hC' hx' F' N' off' ne'; (first | lcg_open hv' | (obtain ⟨t9', hv9'⟩ := hv'; subst hv9'; replace hx' : _ = some (Value.int 1 t9') := hx')); (try dsimp only); k_steps)
    · (intro v' I' oI' C' oC' D' m' h' tk' E' ys' hv' hC' hx' F' N' off' ne'; (first | lcg_open hv' | (obtain ⟨t9', hv9'⟩ := hv'; subst hv9'; replace hx' : _ = some (Value.int 2 t9') := hx')); (try dsimp only); k_steps)
    intro zs hzs
    k_steps
    refine join_listW (News.isList (by assumption) (by k_mem)) (strsAre_app (strsAre_app (strsAre_filt (l := [(bitZ x 8, p0), (bitZ x 4, p1), (bitZ x 2, p2)]) hzs) (.cons _ _ .nil)) (.cons _ _ .nil)) (by decide) (by rw [List.append_assoc]; exact fits_app _ _ (by simp [hp0, hp1, hp2, hp3]) (by simp) (by simp [show (Str.ofString "\"").length = 1 from rfl]; omega)) ?_
    intro t9 k9
    k_steps
    exact hret' _ _ _ (by assumption) (by assumption)
  by_cases c2 : b2 = true
  · rw [show onZ b1 b2 b3 = 2 by simp [onZ, c3, c2]]
    have hret' : RetVal (fun t => .str (Txt.join (Str.ofString "") (filtL [(bitZ x 8, p0), (bitZ x 4, p1)] ++ [Str.ofString "\""] ++ [p2, p3])) t) news h₀ L m s Q := by simpa [openF, openL, c3, c2] using hret
    k_steps
    refine stop_in ?_
    refine restT [(bitZ x 8, StrIs p0), (bitZ x 4, StrIs p1)] _ rfl trivial ⟨?_, ?_, trivial⟩ ?_
    · (intro v' I' oI' C' oC' D' m' h' tk' E' ys' hv' hC' hx' F' N' off' ne'; (first | lcg_open hv' | (obtain ⟨t9', hv9'⟩ := hv'; subst hv9'; replace hx' : _ = some (Value.int 0 t9') := hx')); (try dsimp only); k_steps)
    · (intro v' I' oI' C' oC' D' m' h' tk' E' ys' hv' hC' hx' F' N' off' ne'; (first | lcg_open hv' | (obtain ⟨t9', hv9'⟩ := hv'; subst hv9'; replace hx' : _ = some (Value.int 1 t9') := hx')); (try dsimp only); k_steps)
    intro zs hzs
    k_steps
    refine join_listW (News.isList (by assumption) (by k_mem)) (strsAre_app (strsAre_app (strsAre_filt (l := [(bitZ x 8, p0), (bitZ x 4, p1)]) hzs) (.cons _ _ .nil)) (.cons _ _ (.cons _ _ .nil))) (by decide) (by rw [List.append_assoc]; exact fits_app _ _ (by simp [hp0, hp1, hp2, hp3]) (by simp) (by simp [show (Str.ofString "\"").length = 1 from rfl]; omega)) ?_
    intro t9 k9
    k_steps
    exact hret' _ _ _ (by assumption) (by assumption)
  by_cases c1 : b1 = true
  · rw [show onZ b1 b2 b3 = 1 by simp [onZ, c3, c2, c1]]
    have hret' : RetVal (fun t => .str (Txt.join (Str.ofString "") (filtL [(bitZ x 8, p0)] ++ [Str.ofString "\""] ++ [p1, p2, p3])) t) news h₀ L m s Q := by simpa [openF, openL, c3, c2, c1] using hret
    k_steps
    refine stop_in ?_
    refine restT [(bitZ x 8, StrIs p0)] _ rfl trivial ⟨?_, trivial⟩ ?_
    · (intro v' I' oI' C' oC' D' m' h' tk' E' ys' hv' hC' hx' F' N' off' ne'; (first | lcg_open hv' | (obtain ⟨t9', hv9'⟩ := hv'; subst hv9'; replace hx' : _ = some (Value.int 0 t9') := hx')); (try dsimp only); k_steps)
    intro zs hzs
    k_steps
    refine join_listW (News.isList (by assumption) (by k_mem)) (strsAre_app (strsAre_app (strsAre_filt (l := [(bitZ x 8, p0)]) hzs) (.cons _ _ .nil)) (.cons _ _ (.cons _ _ (.cons _ _ .nil)))) (by decide) (by rw [List.append_assoc]; exact fits_app _ _ (by simp [hp0, hp1, hp2, hp3]) (by simp) (by simp [show (Str.ofString "\"").length = 1 from rfl]; omega)) ?_
    intro t9 k9
    k_steps
    exact hret' _ _ _ (by assumption) (by assumption)
  · rw [show onZ b1 b2 b3 = 0 by simp [onZ, c3, c2, c1]]
    have hret' : RetVal (fun t => .str (Txt.join (Str.ofString "") (filtL [] ++ [Str.ofString "\""] ++ [p0, p1, p2, p3])) t) news h₀ L m s Q := by simpa [openF, openL, c3, c2, c1] using hret
    k_steps
    refine stop_in ?_
    refine restT [] _ rfl trivial trivial ?_

    intro zs hzs
    k_steps
    refine join_listW (News.isList (by assumption) (by k_mem)) (strsAre_app (strsAre_app (strsAre_filt (l := []) hzs) (.cons _ _ .nil)) (.cons _ _ (.cons _ _ (.cons _ _ (.cons _ _ .nil))))) (by decide) (by rw [List.append_assoc]; exact fits_app _ _ (by simp [hp0, hp1, hp2, hp3]) (by simp) (by simp [show (Str.ofString "\"").length = 1 from rfl]; omega)) ?_
    intro t9 k9
    k_steps
    exact hret' _ _ _ (by assumption) (by assumption)
  k_with_none
end

section
theorem str_ext {x y : Str} (h : x.cps.toList = y.cps.toList) : x = y := by cases x; cases y; simp only [Str.mk.injEq]; exact Array.toList_inj.mp h
theorem len_list {x : Str} {l : List Nat} (e : x.cps.toList = l) : x.length = l.length := by rw [← e]; simp [Str.length]
theorem item_list {x : Str} {l : List Nat} {i : Int} (e : x.cps.toList = l) (h0 : 0 ≤ i) (h1 : i < (l.length : Int)) : Txt.item x i = ⟨#[l.getD i.toNat 0]⟩ := by
  rw [item_meets ⟨h0, by rw [len_list e]; exact h1⟩, ← e]
  simp [Array.getD_eq_getD_getElem?, List.getD_eq_getElem?_getD]
theorem item_neg {x : Str} {l : List Nat} {i : Int} (e : x.cps.toList = l) (h0 : i < 0) (h1 : -(l.length : Int) ≤ i) : Txt.item x i = ⟨#[l.getD (i + l.length).toNat 0]⟩ := by
  have h := beq_iff_eq.mp (item_closes_neg (x := x) (i := i) h0 (by rw [len_list e]; exact h1) rfl)
  rw [h, len_list e, ← e]
  simp [Array.getD_eq_getD_getElem?, List.getD_eq_getElem?_getD]
theorem slice_from {x : Str} {l : List Nat} {i : Int} (e : x.cps.toList = l) (h0 : 0 ≤ i) (h1 : i ≤ (l.length : Int)) : (Txt.slice x (some i) none).cps.toList = l.drop i.toNat := by
  rw [slice_from_eq h0 (by rw [len_list e]; exact h1) rfl, ← e]
  simp only [List.toList_toArray]
  rw [List.take_of_length_le]
  rw [List.length_drop, len_list rfl]
  omega
theorem slice_neg {x : Str} {l : List Nat} {i : Int} (e : x.cps.toList = l) (h0 : i < 0) (h1 : -(l.length : Int) ≤ i) : (Txt.slice x none (some i)).cps.toList = l.take (i + l.length).toNat := by
  have h := beq_iff_eq.mp (slice_closes_to_neg (x := x) (j := i) h0 (by rw [len_list e]; exact h1) rfl)
  rw [h, len_list e, ← e]
  simp
theorem slice_all {x : Str} : Txt.slice x none none = x := by
  unfold Txt.slice
  rw [if_pos]
  simp [PySem.Builtin.Str.strSliceIndices, sliceRange]
  split <;> omega
theorem getD_app_left {l r : List Nat} {i : Nat} (h : i < l.length) : (l ++ r).getD i 0 = l.getD i 0 := by simp [List.getD_eq_getElem?_getD, List.getElem?_append_left h]
theorem getD_app_right {l r : List Nat} {i : Nat} (h : l.length ≤ i) : (l ++ r).getD i 0 = r.getD (i - l.length) 0 := by simp [List.getD_eq_getElem?_getD, List.getElem?_append_right h]
theorem sgl_eq (x y : Nat) : ((⟨#[x]⟩ : Str) == ⟨#[y]⟩) = decide (x = y) := by
  by_cases h : x = y
  · subst h; simp
  · rw [decide_eq_false h]
    exact beq_eq_false_iff_ne.mpr fun e => h (by have e2 := congrArg (fun a : Str => a.cps.toList) e; simpa using e2)
section
variable {xa xb : Str} {zP zM zN zS : List Nat} {p q : Int}
theorem pre_true (eA : xa.cps.toList = zP ++ zM ++ zS) (eB : xb.cps.toList = zP ++ zN ++ zS) (hMN : zM.length = zN.length) (hM0 : 0 < zM.length) (hhd : zM.getD 0 0 ≠ zN.getD 0 0) (i0 : 0 ≤ p) (i1 : p ≤ (zP.length : Int)) :
    (Txt.item xa p == Txt.item xb p) = decide (p < (zP.length : Int)) := by
  have hA : (zP ++ zM ++ zS).length = zP.length + zM.length + zS.length := by rw [List.length_append, List.length_append]
  have hB : (zP ++ zN ++ zS).length = zP.length + zN.length + zS.length := by rw [List.length_append, List.length_append]
  rw [item_list eA i0 (by rw [hA]; omega), item_list eB i0 (by rw [hB]; omega), sgl_eq]
  by_cases h : p < (zP.length : Int)
  · rw [decide_eq_true h, decide_eq_true]
    rw [List.append_assoc, List.append_assoc, getD_app_left (by omega), getD_app_left (by omega)]
  · have e : p.toNat = zP.length := by omega
    rw [decide_eq_false h, decide_eq_false]
    rw [e, List.append_assoc, List.append_assoc, getD_app_right (Nat.le_refl _), getD_app_right (Nat.le_refl _), Nat.sub_self, getD_app_left hM0, getD_app_left (by omega)]
    exact hhd
theorem post_true {x y : Str} (eA : x.cps.toList = zM ++ zS) (eB : y.cps.toList = zN ++ zS) (hMN : zM.length = zN.length) (hM0 : 0 < zM.length) (hlast : zM.getD (zM.length - 1) 0 ≠ zN.getD (zN.length - 1) 0) (i0 : q ≤ 0) (i1 : -(zS.length : Int) ≤ q) :
    (Txt.item x (q - 1) == Txt.item y (q - 1)) = decide (-(zS.length : Int) < q) := by
  have hA : (zM ++ zS).length = zM.length + zS.length := by simp
  have hB : (zN ++ zS).length = zN.length + zS.length := by simp
  rw [item_neg eA (by omega) (by rw [hA]; omega), item_neg eB (by omega) (by rw [hB]; omega), sgl_eq]
  by_cases h : -(zS.length : Int) < q
  · rw [decide_eq_true h, decide_eq_true]
    rw [getD_app_right (by rw [hA]; omega), getD_app_right (by rw [hB]; omega), hA, hB, hMN]
  · have e : q = -(zS.length : Int) := by omega
    rw [decide_eq_false h, decide_eq_false]
    subst e
    rw [hA, hB, getD_app_left (by omega), getD_app_left (by omega)]
    rw [show (-(zS.length : Int) - 1 + ((zM.length + zS.length : Nat) : Int)).toNat = zM.length - 1 by omega, show (-(zS.length : Int) - 1 + ((zN.length + zS.length : Nat) : Int)).toNat = zN.length - 1 by omega]
    exact hlast
end
end

section
/-- a bare quotation mark (none) or a piece -/
noncomputable abbrev Tk := Option (List Nat)
noncomputable def tkText : List Tk → List Nat
  | [] => []
  | some q :: r => q ++ tkText r
  | none :: r => 34 :: tkText r
noncomputable def resK : Option (List Nat) → List Nat → List Tk → List Nat
  | none, K, [] => K
  | some T, K, [] => K ++ T
  | none, K, some q :: r => resK none (K ++ q) r
  | some T, K, some q :: r => resK (some (T ++ q)) K r
  | none, K, none :: r => resK (some [34]) K r
  | some _, K, none :: r => resK none K r
noncomputable def IsPiece (q : List Nat) : Prop := ∃ c, c ≠ 34 ∧ c ≠ 92 ∧ (q = [c] ∨ q = [c, 92, 34] ∨ q = [c, 92, 92])
theorem quot_is : Str.ofString "\"" = ⟨#[34]⟩ := by decide
theorem sgl_ne {c : Nat} (h : c ≠ 34) : (⟨#[c]⟩ : Str) ≠ Str.ofString "\"" := by
  rw [quot_is]
  intro e
  have e2 := congrArg (fun a : Str => a.cps.toList) e
  exact h (by simpa using e2)
theorem esc_ne (c : Nat) : Str.ofString "\\" ++ ⟨#[c]⟩ ≠ Str.ofString "\"" := by
  intro e
  have e2 := congrArg Str.length e
  rw [PySem.Str.length_append] at e2
  have h1 : (Str.ofString "\\").length = 1 := by decide
  have h2 : (Str.ofString "\"").length = 1 := by decide
  have h3 : (⟨#[c]⟩ : Str).length = 1 := rfl
  omega
theorem scan_piece {q : List Nat} (h : IsPiece q) (i : Nat) (r : List Nat) : ∃ M, scan i false (q ++ r) = M ++ scan (i + q.length) false r ∧ ∀ p ∈ M, p.2 ≠ Str.ofString "\"" := by
  obtain ⟨c, h1, h2, h⟩ := h
  rcases h with rfl | rfl | rfl
  · refine ⟨[((i : Int), ⟨#[c]⟩)], ?_, ?_⟩
    · simp only [List.cons_append, List.nil_append, scan, if_neg h2, List.length_cons, List.length_nil]
    · intro p hp; rw [List.mem_singleton.mp hp]; exact sgl_ne h1
  · refine ⟨[((i : Int), ⟨#[c]⟩), (((i + 1 + 1 : Nat) : Int), Str.ofString "\\" ++ ⟨#[34]⟩)], ?_, ?_⟩
    · simp only [List.cons_append, List.nil_append, scan, if_neg h2, if_true, List.length_cons, List.length_nil]
    · intro p hp
      rcases List.mem_cons.mp hp with rfl | hp
      · exact sgl_ne h1
      · rw [List.mem_singleton.mp hp]; exact esc_ne _
  · refine ⟨[((i : Int), ⟨#[c]⟩), (((i + 1 + 1 : Nat) : Int), Str.ofString "\\" ++ ⟨#[92]⟩)], ?_, ?_⟩
    · simp only [List.cons_append, List.nil_append, scan, if_neg h2, if_true, List.length_cons, List.length_nil]
    · intro p hp
      rcases List.mem_cons.mp hp with rfl | hp
      · exact sgl_ne h1
      · rw [List.mem_singleton.mp hp]; exact esc_ne _
theorem fold_quiet {x : Str} : ∀ (M : List (Int × Str)) (st : Int × Option Int × List Str), (∀ p ∈ M, p.2 ≠ Str.ofString "\"") → M.foldl (stepF x) st = st
  | [], _, _ => rfl
  | p :: r, st, h => by
    rw [List.foldl_cons, show stepF x st p = st by unfold stepF; rw [if_neg (h p (.head _))]]
    exact fold_quiet r st fun q hq => h q (.tail _ hq)
/-- the texts put together -/
noncomputable def flat (l : List Str) : List Nat := (l.map (·.cps.toList)).flatten
theorem flat_snoc (l : List Str) (y : Str) : flat (l ++ [y]) = flat l ++ y.cps.toList := by simp [flat]
theorem glue_fold : ∀ (l : List Str) (a : Array Nat), (l.foldl (fun acc p => acc ++ (Str.ofString "").cps ++ p.cps) a).toList = a.toList ++ flat l
  | [], a => by simp [flat]
  | p :: r, a => by
    rw [List.foldl_cons, glue_fold r, show (Str.ofString "").cps = #[] by decide]
    simp [flat]
theorem join_flat (l : List Str) : (Txt.join (Str.ofString "") l).cps.toList = flat l := by
  unfold Txt.join Builtin.Str.glued
  cases l with
  | nil => simp [flat]; rfl
  | cons p r => simp only [List.drop_succ_cons, List.drop_zero, List.headD_cons]; rw [glue_fold]; simp [flat]
theorem slice_mid {x : Str} {l : List Nat} {i j : Nat} (e : x.cps.toList = l) (h : i ≤ j) (hj : j ≤ l.length) : (Txt.slice x (some (i : Int)) (some (j : Int))).cps.toList = (l.drop i).take (j - i) := by
  have hx : x.length = l.length := len_list e
  have h := beq_iff_eq.mp (slice_closes (x := x) (i := (i : Int)) (j := (j : Int)) ⟨by omega, by omega, by rw [e]; omega⟩)
  rw [h, ← e]
  simp
/-- what the reader's state says of the signs read so far (X): what is kept (K), what stands behind an open mark -/
noncomputable def Inv (X : List Nat) : Option (List Nat) → List Nat → Int × Option Int × List Str → Prop
  | none, K, st => ∃ n : Nat, st.1 = (n : Int) ∧ st.2.1 = none ∧ n ≤ X.length ∧ flat st.2.2 ++ X.drop n = K
  | some T, K, st => ∃ n o : Nat, st.1 = (n : Int) ∧ st.2.1 = some (o : Int) ∧ n ≤ o ∧ o ≤ X.length ∧ flat st.2.2 ++ (X.drop n).take (o - n) = K ∧ X.drop o = T
theorem take_app {X Y : List Nat} {n o : Nat} (h : n ≤ o) (ho : o ≤ X.length) : ((X ++ Y).drop n).take (o - n) = (X.drop n).take (o - n) := by
  rw [List.drop_append_of_le_length (by omega), List.take_append_of_le_length (by rw [List.length_drop]; omega)]
theorem fold_res {x : Str} : ∀ (toks : List Tk) (X : List Nat) (op : Option (List Nat)) (K : List Nat) (st : Int × Option Int × List Str), x.cps.toList = X ++ tkText toks → (∀ q, some q ∈ toks → IsPiece q) → Inv X op K st →
    (stripR x ((scan X.length false (tkText toks)).foldl (stepF x) st)).cps.toList = resK op K toks
  | [], X, op, K, (s, o, acc), e, _, h => by
    rw [tkText, List.append_nil] at e
    have hx := len_list e
    rw [tkText, scan, List.foldl_nil]
    unfold stripR
    rw [join_flat]
    cases op with
    | none =>
      obtain ⟨n, h1, h2, h3, h4⟩ := h
      dsimp only at h1 h2 h4 ⊢
      subst h1
      rw [resK, ← h4]
      by_cases c : (n : Int) < (x.length : Int)
      · rw [if_pos c, flat_snoc, slice_from e (by omega) (by omega)]
        simp
      · rw [if_neg c, List.drop_of_length_le (by omega), List.append_nil]
    | some T =>
      obtain ⟨n, o', h1, h2, h3, h4, h5, h6⟩ := h
      dsimp only at h1 h2 h5 ⊢
      subst h1
      rw [resK, ← h5, ← h6]
      have hd : X.drop n = (X.drop n).take (o' - n) ++ X.drop o' := by
        conv => lhs; rw [← List.take_append_drop (o' - n) (X.drop n), List.drop_drop]
        rw [show n + (o' - n) = o' by omega]
      by_cases c : (n : Int) < (x.length : Int)
      · rw [if_pos c, flat_snoc, slice_from e (by omega) (by omega), Int.toNat_natCast, List.append_assoc, ← hd]
      · have hn : X.drop n = [] := List.drop_of_length_le (by omega)
        rw [if_neg c, List.append_assoc, ← hd, hn, List.append_nil]
  | some q :: r, X, op, K, st, e, hq, h => by
    rw [tkText] at e ⊢
    obtain ⟨M, hM, hM2⟩ := scan_piece (hq q (.head _)) X.length (tkText r)
    rw [hM, List.foldl_append, fold_quiet M st hM2]
    have e' : x.cps.toList = (X ++ q) ++ tkText r := by rw [List.append_assoc]; exact e
    have hq' : ∀ q', some q' ∈ r → IsPiece q' := fun q' hm => hq q' (.tail _ hm)
    have hl : X.length + q.length = (X ++ q).length := by simp
    rw [hl]
    cases op with
    | none =>
      rw [resK]
      refine fold_res r (X ++ q) none (K ++ q) st e' hq' ?_
      obtain ⟨n, h1, h2, h3, h4⟩ := h
      refine ⟨n, h1, h2, by rw [List.length_append]; omega, ?_⟩
      rw [List.drop_append_of_le_length h3, ← List.append_assoc, h4]
    | some T =>
      rw [resK]
      refine fold_res r (X ++ q) (some (T ++ q)) K st e' hq' ?_
      obtain ⟨n, o', h1, h2, h3, h4, h5, h6⟩ := h
      refine ⟨n, o', h1, h2, h3, by rw [List.length_append]; omega, by rw [take_app h3 h4]; exact h5, ?_⟩
      rw [List.drop_append_of_le_length h4, h6]
  | none :: r, X, op, K, (s, o, acc), e, hq, h => by
    rw [tkText] at e ⊢
    rw [scan, if_neg (by decide), List.foldl_cons]
    have e' : x.cps.toList = (X ++ [34]) ++ tkText r := by rw [List.append_assoc]; exact e
    have hq' : ∀ q', some q' ∈ r → IsPiece q' := fun q' hm => hq q' (.tail _ hm)
    have hl : X.length + 1 = (X ++ [34]).length := by simp
    rw [hl]
    cases op with
    | none =>
      obtain ⟨n, h1, h2, h3, h4⟩ := h
      dsimp only at h1 h2 h4
      subst h1; subst h2
      rw [resK, show stepF x ((n : Int), none, acc) ((X.length : Int), ⟨#[34]⟩) = ((n : Int), some (X.length : Int), acc) by unfold stepF; rw [if_pos quot_is.symm]]
      refine fold_res r (X ++ [34]) (some [34]) K _ e' hq' ⟨n, X.length, rfl, rfl, h3, by rw [List.length_append]; omega, ?_, by simp⟩
      rw [take_app h3 (Nat.le_refl _), List.take_of_length_le (by rw [List.length_drop]; omega)]
      exact h4
    | some T =>
      obtain ⟨n, o', h1, h2, h3, h4, h5, h6⟩ := h
      dsimp only at h1 h2 h5
      subst h1; subst h2
      rw [resK, show stepF x ((n : Int), some (o' : Int), acc) ((X.length : Int), ⟨#[34]⟩) = ((X.length : Int) + 1, none, if (n : Int) ≠ (o' : Int) then acc ++ [Txt.slice x (some (n : Int)) (some (o' : Int))] else acc) by unfold stepF; rw [if_pos quot_is.symm]]
      refine fold_res r (X ++ [34]) none K _ e' hq' ⟨X.length + 1, by push_cast; rfl, rfl, by simp, ?_⟩
      dsimp only
      rw [List.drop_of_length_le (by simp), List.append_nil, ← h5]
      by_cases c : (n : Int) ≠ (o' : Int)
      · rw [if_pos c, flat_snoc, slice_mid e h3 (by simp; omega), take_app h3 h4]
      · rw [if_neg c, show o' - n = 0 by omega, List.take_zero, List.append_nil]
theorem tk_quote : ∀ (toks : List Tk), none ∈ toks → 34 ∈ tkText toks
  | none :: r, _ => by rw [tkText]; exact .head _
  | some q :: r, h => by
    rw [tkText]
    rcases List.mem_cons.mp h with h | h
    · cases h
    · exact List.mem_append_right _ (tk_quote r h)
theorem res_none : ∀ (toks : List Tk) (K : List Nat), none ∉ toks → resK none K toks = K ++ tkText toks
  | [], K, _ => by rw [resK, tkText, List.append_nil]
  | some q :: r, K, h => by rw [resK, tkText, res_none r _ fun hm => h (.tail _ hm), List.append_assoc]
  | none :: r, K, h => absurd (.head _) h
/-- the reader on a text of marks and pieces -/
theorem strip_is {x : Str} (toks : List Tk) (e : x.cps.toList = tkText toks) (hq : ∀ q, some q ∈ toks → IsPiece q) : (stripF x).cps.toList = resK none [] toks := by
  unfold stripF
  have hf := PySem.StrLaws.found_one x 34
  rw [← quot_is] at hf
  split
  · rename_i h
    rw [h, Bool.not_true] at hf
    have hm : 34 ∉ x.cps.toList := of_decide_eq_false hf.symm
    have hn : none ∉ toks := fun hm2 => hm (by rw [e]; exact tk_quote toks hm2)
    rw [res_none toks [] hn, List.nil_append, e]
  · have := fold_res (x := x) toks [] none [] (0, none, []) (by rw [List.nil_append]; exact e) hq ⟨0, rfl, rfl, Nat.le_refl _, rfl⟩
    rw [← e] at this
    exact this
end

section
/-- what one sign costs against another -/
theorem sgl_beq (x y : Nat) : ((⟨#[x]⟩ : Str) == ⟨#[y]⟩) = decide (x = y) := by
  by_cases h : x = y
  · subst h; simp
  · rw [decide_eq_false h]
    exact beq_eq_false_iff_ne.mpr fun e => h (by have e2 := congrArg (fun a : Str => a.cps.toList) e; simpa using e2)
noncomputable def subC (x y : Nat) : Int := if x = y then 0 else if Txt.lower ⟨#[x]⟩ = Txt.lower ⟨#[y]⟩ then 1 else 2

set_option maxHeartbeats 0 in
theorem c_cost (w : World) (x y : Nat) (tx ty : Tok) (hx : Builtin.Str.tooLong (Txt.lower ⟨#[x]⟩).length = false) (hy : Builtin.Str.tooLong (Txt.lower ⟨#[y]⟩).length = false) (news : List (Addr × Obj)) : Ctr w 5 50 120 [.str ⟨#[x]⟩ tx, .str ⟨#[y]⟩ ty] news (RetVal (fun t => .int (subC x y) t) news) := by
  k_with "LeaveK" => (k_dflt (refine' leaveM ?hM ?hN ?G ?k1 ?k2 ?sub ?_; (case G => assumption); (case hM => assumption); (case hN => assumption); (case k1 => k_asm); (case k2 => k_asm); (case sub => lcg_sub)); intro kF kN kM; (try dsimp only))
  k_with "CompSrcT" => (k_here; k_dflt (first | (refine LCt.CompSrcT.range (n := 4) (by rfl) (by k_asm) (by k_asm) (by assumption) (by first | decide | rfl) (by first | rfl | decide) (by first | size_fits | exact Nat.le_of_ble_eq_true rfl) ?_; intro g') | (refine LCt.CompSrcT.range (n := 3) (by rfl) (by k_asm) (by k_asm) (by assumption) (by first | decide | rfl) (by first | rfl | decide) (by first | size_fits | exact Nat.le_of_ble_eq_true rfl) ?_; intro g') | (refine LCt.CompSrcT.range (n := 2) (by rfl) (by k_asm) (by k_asm) (by assumption) (by first | decide | rfl) (by first | rfl | decide) (by first | size_fits | exact Nat.le_of_ble_eq_true rfl) ?_; intro g') | (refine LCt.CompSrcT.range (n := 1) (by rfl) (by k_asm) (by k_asm) (by assumption) (by first | decide | rfl) (by first | rfl | decide) (by first | size_fits | exact Nat.le_of_ble_eq_true rfl) ?_; intro g') | (refine LCt.CompSrcT.range (n := 0) (by rfl) (by k_asm) (by k_asm) (by assumption) (by first | decide | rfl) (by first | rfl | decide) (by first | size_fits | exact Nat.le_of_ble_eq_true rfl) ?_; intro g')))
  k_with "CompRestT" => (refine stop_out ?_)
  k_with "TurnT" => (refine TurnT.mk (by first | exact fun _ h => h | lcg_sub) ?_ (by first | exact StrIs.mk | exact IntIs.mk (by first | rfl | decide | omega)); (try dsimp only); first | assumption | (with_unfolding_all exact decide_eq_true (by assumption)) | (simp_all; done))
  k_with "TurnF" => (refine TurnF.mk (by first | exact fun _ h => h | lcg_sub) ?_; (try dsimp only); first | assumption | (with_unfolding_all exact decide_eq_false (by assumption)) | (simp_all; done))
  k_with "eval ListComp" => (k_here; (with_reducible show wpAny _ _ (eval (Expr.ListComp _ _ _ _) _) _ _ _); first | (lct_look; lcg_calm; k_dflt (refine LCt.ListComp_T (F₀ := by k_asm) (by with_unfolding_all rfl) (by decide) (by rfl) (by decide) (by rfl) ?_); k_dflt lct_toSrc) | (lcf_look; lcg_calm; k_dflt (refine LCg.ListComp_U (F₀ := by k_asm) (by with_unfolding_all rfl) (by decide) (by rfl) (by decide) (by rfl) ?_); k_dflt lcg_toSrc) | (lcg_look; lcg_calm; k_dflt (refine LCg.ListComp_U (F₀ := by k_asm) (by rfl) (by decide) (by rfl) (by decide) (by rfl) ?_); k_dflt lcg_toSrc))
  k_with "binaryOp Mult ref int" => (k_here; (with_reducible show wpAny _ _ (binaryOp Operator.Mult (Value.ref _) (Value.int _ _)) _ _ _); k_dflt (refine' KMa.mul ?F ?N ?l ?lo ?hi ?z ?e ?_; (case F => k_asm); (case N => k_asm); (case l => is_list); (case lo => first | omega | decide); (case hi => first | omega | decide); (case z => (simp only [List.length_cons, List.length_nil]; decide)); (case e => (simp only [Int.sub_zero, Int.sub_self, Int.reduceSub, Int.reduceToNat, Int.toNat_zero, List.replicate_succ, List.replicate_zero, List.flatten_cons, List.flatten_nil, List.cons_append, List.nil_append, List.append_nil]; first | done | exact rfl)); k_whole); intro D' h' F' N' l1; (try k_lt l1); (try k_sweep))
  k_with "CompRest" => (refine stop_out ?_)
  k_with "CompEnd" => k_dflt (first | (refine LCg.CompEnd.intro (by assumption) (by assumption) _ (fun _ h => h) (by assumption) (by lcg_src) ?_) | (refine LCg.CompEnd.intro (by assumption) (by assumption) _ (fun _ h => List.Mem.tail _ h) (by assumption) (by lcg_src) ?_))
  k_with "TurnV" => (refine TurnV.mk (fun _ h => h) (by first | exact StrIs.mk | exact IntIs.mk (by first | rfl | decide | omega) | rfl))
  k_with "FinE" => ((unfold LCg.FinE); intro D' h' tk' F' N' o1'; (replace o1' := off1H o1'); (try simp only [List.nil_append, List.cons_append] at N'); (try simp only [List.nil_append, List.cons_append] at o1'); (try dsimp only))
  k_with "FinA" => ((unfold LCg.FinA); intro D' h' tk' F' N' o1'; (replace o1' := off1H o1'); (try simp only [List.nil_append, List.cons_append] at N'); (try simp only [List.nil_append, List.cons_append] at o1'); (try dsimp only))
  k_with "subscriptTail Name Name ref int" => (k_here; (with_reducible show wpAny _ _ (subscriptTail _ _ (Value.ref _) (Value.int _ _)) _ _ _); k_dflt (refine' item_led ?N ?m ?a ?b ?x ?_; (case N => k_asm); (case m => k_mem); (case a => decide); (case b => decide); (case x => exact rfl)))
  k_with "subscriptTail Name Constant ref int" => (k_here; (with_reducible show wpAny _ _ (subscriptTail _ _ (Value.ref _) (Value.int _ _)) _ _ _); k_dflt (refine' item_led ?N ?m ?a ?b ?x ?_; (case N => k_asm); (case m => k_mem); (case a => decide); (case b => decide); (case x => exact rfl)))
  k_with "subscriptTail Name BinOp ref int" => (k_here; (with_reducible show wpAny _ _ (subscriptTail _ _ (Value.ref _) (Value.int _ _)) _ _ _); k_dflt (refine' item_led ?N ?m ?a ?b ?x ?_; (case N => k_asm); (case m => k_mem); (case a => decide); (case b => decide); (case x => exact rfl)))
  k_with "eval Name" => (k_here; (with_reducible show wpAny _ _ (eval (Expr.Name _ _) (compEnvC _ _ _ _)) _ _ _); k_dflt (first | (refine' lcf_cell ?N ?c ?m ?d ?_ ?a ?b; (case b => exact rfl); (case a => exact rfl); (case N => k_asm); (case c => exact rfl); (case m => k_mem); (case d => k_asm)) | (refine' LCgL.ld_own ?N ?m ?h ?x ?_ ?a ?b; (case b => exact rfl); (case a => exact rfl); (case N => k_asm); (case x => with_reducible assumption); (case m => k_mem); (case h => with_reducible assumption))))
  k_with "call builtin:str.lower" => ((try dsimp only); (with_reducible show wpAny _ _ (call (Value.builtin "str.lower") [Value.str _ _]) _ _ _); refine SC.lower (by assumption) ?_; (try dsimp only))
  delta Ctr PG lo; k_fill
  intro mean mg mb dp un gd cn cs a ccd cl outer A₀ base h₀ L m s Q E B F X N T hk hd hu hret
  have NA := (news_nil (h₀ := h₀) (L := L) (h := s.heap))
  refine wpAny_call ?_
  k_dflt (refine' enterM ?k1 ?k2 ?k3 ?kM ?k4 ?k5 ?kA ?kF ?kK ?k6 ?k7 ?k8 ?k9 ?kB ?_ ?c2 ?c3 ?c4 ?c5; (case kA => exact rfl); (case kF => exact rfl); (case kK => assumption); (case k1 => k_asm); (case k2 => k_asm); (case k3 => k_asm); (case kM => exact N); (case k4 => exact NA); (case k5 => k_asm); (case k6 => k_is); (case k7 => k_is); (case k8 => ktr_room); (case k9 => first | exact BindsTo.of_eq rfl | exact binds_K (by k_in) rfl (by k_is) rfl rfl rfl); (case c5 => decide); (case kB => exact locs rfl); (case c2 => exact rfl); (case c3 => exact rfl); (case c4 => exact rfl); k_whole; intro g' L' h' G' FG' F' N' B' X' T' l1; (try k_lt l1); (try dsimp only); (try k_lift B'); (try k_fold))
  k_steps
  · rename ((⟨#[x]⟩ : Str) == ⟨#[y]⟩) = _ => h1
    rw [sgl_beq] at h1
    rw [show subC x y = 0 by unfold subC; rw [if_pos (of_decide_eq_true h1)]] at hret
    exact hret _ _ _ (by k_asm) (by k_asm)
  · rename ((⟨#[x]⟩ : Str) == ⟨#[y]⟩) = _ => h1
    rename (Txt.lower _ == Txt.lower _) = _ => h2
    rw [sgl_beq] at h1
    rw [show subC x y = 1 by unfold subC; rw [if_neg (of_decide_eq_false h1), if_pos (beq_iff_eq.mp h2)]] at hret
    exact hret _ _ _ (by k_asm) (by k_asm)
  · rename ((⟨#[x]⟩ : Str) == ⟨#[y]⟩) = _ => h1
    rename (Txt.lower _ == Txt.lower _) = _ => h2
    rw [sgl_beq] at h1
    rw [show subC x y = 2 by unfold subC; rw [if_neg (of_decide_eq_false h1), if_neg (beq_eq_false_iff_ne.mp h2)]] at hret
    exact hret _ _ _ (by k_asm) (by k_asm)
  k_with_none
end

section
theorem rng_two {n : Nat} (h : n ≤ 40) : Builtin.Range.small 2 (2 * ((n : Int) + 1)) 2 = true ∧ Builtin.Range.rangeSize 2 (2 * ((n : Int) + 1)) 2 = (n : Int) := by
  have key : ∀ n : Nat, n < 41 → Builtin.Range.small 2 (2 * ((n : Int) + 1)) 2 = true ∧ Builtin.Range.rangeSize 2 (2 * ((n : Int) + 1)) 2 = (n : Int) := by decide +kernel
  exact key n (by omega)
theorem c_costv (w : World) (u v : Str) (x y : Nat) (tx ty : Tok) (hu : u = ⟨#[x]⟩) (hv : v = ⟨#[y]⟩) (hx : Builtin.Str.tooLong (Txt.lower ⟨#[x]⟩).length = false) (hy : Builtin.Str.tooLong (Txt.lower ⟨#[y]⟩).length = false) (news : List (Addr × Obj)) :
    Ctr w 5 50 120 [.str u tx, .str v ty] news (RetVal (fun t => .int (subC x y) t) news) := by
  subst hu; subst hv; exact c_cost w x y tx ty hx hy news
/-- one turn of the inner loop: the distance, the result, the least, the row -/
noncomputable def lvStep (x : List Nat) (c : Nat) (st : Int × Int × Int × List Int) (i : Int) : Int × Int × Int × List Int :=
  let d' := st.2.2.2.getD i.toNat 0
  let id := (if d' < st.2.1 then d' else st.2.1) + 2
  let sub := st.1 + subC c (x.getD i.toNat 0)
  let r' := if sub < id then sub else id
  (d', r', if r' < st.2.2.1 then r' else st.2.2.1, st.2.2.2.set i.toNat r')
noncomputable def lvRow (x : List Nat) (c : Nat) (j : Int) (row pre : List Int) : Int × Int × Int × List Int := pre.foldl (lvStep x c) (j * 2, j * 2, 9223372036854775807, row)
/-- one turn of the outer loop: the result, the row, was no least too great -/
noncomputable def lvOut (x y : List Nat) (mc : Int) (n : Nat) (st : Int × List Int × Bool) (j : Int) : Int × List Int × Bool :=
  let q := lvRow x (y.getD j.toNat 0) j st.2.1 (rangeKs 0 n)
  (q.2.1, q.2.2.2, st.2.2 && decide (q.2.2.1 ≤ mc))
noncomputable def lvAll (x y : List Nat) (mc : Int) (n : Nat) (pre : List Int) : Int × List Int × Bool := pre.foldl (lvOut x y mc n) (0, rangeInts 2 2 n, true)
theorem lvAll_ok {x y : List Nat} {mc : Int} {n : Nat} : ∀ (post : List Int) (st : Int × List Int × Bool), (post.foldl (lvOut x y mc n) st).2.2 = true → st.2.2 = true
  | [], _, h => h
  | j :: r, st, h => by
    have h1 := lvAll_ok r _ h
    unfold lvOut at h1
    simp only [Bool.and_eq_true] at h1
    exact h1.1
theorem lvRow_len {x : List Nat} {c : Nat} : ∀ (pre : List Int) (st : Int × Int × Int × List Int), (pre.foldl (lvStep x c) st).2.2.2.length = st.2.2.2.length
  | [], _ => rfl
  | i :: r, st => by rw [List.foldl_cons, lvRow_len r]; simp [lvStep]
section
variable {x : List Nat} {c n : Nat} {LR : List Int → Int × Int × Int × List Int} {pre : List Int} {k d r m : Int} {row : List Int}
theorem inner_lt (hs : LR (pre ++ [k]) = lvStep x c (LR pre) k) (h1 : d = (LR pre).1) (h2 : r = (LR pre).2.1) (h3 : m = (LR pre).2.2.1) (h4 : row = (LR pre).2.2.2) (h5 : row.length = n)
    (hm : (if d + subC c (x.getD k.toNat 0) < (if row.getD k.toNat 0 < r then row.getD k.toNat 0 else r) + 2 then d + subC c (x.getD k.toNat 0) else (if row.getD k.toNat 0 < r then row.getD k.toNat 0 else r) + 2) < m) :
    row.getD k.toNat 0 = (LR (pre ++ [k])).1 ∧ (if d + subC c (x.getD k.toNat 0) < (if row.getD k.toNat 0 < r then row.getD k.toNat 0 else r) + 2 then d + subC c (x.getD k.toNat 0) else (if row.getD k.toNat 0 < r then row.getD k.toNat 0 else r) + 2) = (LR (pre ++ [k])).2.1 ∧
      (if d + subC c (x.getD k.toNat 0) < (if row.getD k.toNat 0 < r then row.getD k.toNat 0 else r) + 2 then d + subC c (x.getD k.toNat 0) else (if row.getD k.toNat 0 < r then row.getD k.toNat 0 else r) + 2) = (LR (pre ++ [k])).2.2.1 ∧
      row.set k.toNat (if d + subC c (x.getD k.toNat 0) < (if row.getD k.toNat 0 < r then row.getD k.toNat 0 else r) + 2 then d + subC c (x.getD k.toNat 0) else (if row.getD k.toNat 0 < r then row.getD k.toNat 0 else r) + 2) = (LR (pre ++ [k])).2.2.2 ∧
      (row.set k.toNat (if d + subC c (x.getD k.toNat 0) < (if row.getD k.toNat 0 < r then row.getD k.toNat 0 else r) + 2 then d + subC c (x.getD k.toNat 0) else (if row.getD k.toNat 0 < r then row.getD k.toNat 0 else r) + 2)).length = n := by
  rw [hs]
  unfold lvStep
  rw [← h1, ← h2, ← h3, ← h4]
  dsimp only
  rw [if_pos hm]
  exact ⟨rfl, rfl, rfl, rfl, by rw [List.length_set]; exact h5⟩
theorem inner_ge (hs : LR (pre ++ [k]) = lvStep x c (LR pre) k) (h1 : d = (LR pre).1) (h2 : r = (LR pre).2.1) (h3 : m = (LR pre).2.2.1) (h4 : row = (LR pre).2.2.2) (h5 : row.length = n)
    (hm : ¬ (if d + subC c (x.getD k.toNat 0) < (if row.getD k.toNat 0 < r then row.getD k.toNat 0 else r) + 2 then d + subC c (x.getD k.toNat 0) else (if row.getD k.toNat 0 < r then row.getD k.toNat 0 else r) + 2) < m) :
    row.getD k.toNat 0 = (LR (pre ++ [k])).1 ∧ (if d + subC c (x.getD k.toNat 0) < (if row.getD k.toNat 0 < r then row.getD k.toNat 0 else r) + 2 then d + subC c (x.getD k.toNat 0) else (if row.getD k.toNat 0 < r then row.getD k.toNat 0 else r) + 2) = (LR (pre ++ [k])).2.1 ∧
      m = (LR (pre ++ [k])).2.2.1 ∧
      row.set k.toNat (if d + subC c (x.getD k.toNat 0) < (if row.getD k.toNat 0 < r then row.getD k.toNat 0 else r) + 2 then d + subC c (x.getD k.toNat 0) else (if row.getD k.toNat 0 < r then row.getD k.toNat 0 else r) + 2) = (LR (pre ++ [k])).2.2.2 ∧
      (row.set k.toNat (if d + subC c (x.getD k.toNat 0) < (if row.getD k.toNat 0 < r then row.getD k.toNat 0 else r) + 2 then d + subC c (x.getD k.toNat 0) else (if row.getD k.toNat 0 < r then row.getD k.toNat 0 else r) + 2)).length = n := by
  rw [hs]
  unfold lvStep
  rw [← h1, ← h2, ← h3, ← h4]
  dsimp only
  rw [if_neg hm]
  exact ⟨rfl, rfl, rfl, rfl, by rw [List.length_set]; exact h5⟩
end
theorem rangeKs_succ (n : Nat) : rangeKs 0 (n + 1) = rangeKs 0 n ++ [(0 : Int) + (n : Int)] := by simp [rangeKs, List.range_succ]
theorem lvAll_snoc {x y : List Nat} {mc : Int} {n : Nat} (pre : List Int) (k : Int) : lvAll x y mc n (pre ++ [k]) = lvOut x y mc n (lvAll x y mc n pre) k := by
  unfold lvAll; rw [List.foldl_append]; rfl
theorem lvRow_snoc {x : List Nat} {c : Nat} {j : Int} {row : List Int} (pre : List Int) (k : Int) : lvRow x c j row (pre ++ [k]) = lvStep x c (lvRow x c j row pre) k := by
  unfold lvRow; rw [List.foldl_append]; rfl
theorem lvAll_pre {x y : List Nat} {mc : Int} {n : Nat} : ∀ (d j : Nat), (lvAll x y mc n (rangeKs 0 (j + d))).2.2 = true → (lvAll x y mc n (rangeKs 0 j)).2.2 = true
  | 0, _, h => h
  | d + 1, j, h => by
    rw [← Nat.add_assoc, rangeKs_succ, lvAll_snoc] at h
    unfold lvOut at h
    simp only [Bool.and_eq_true] at h
    exact lvAll_pre d j h.1
theorem least_ok {x y : List Nat} {mc : Int} {n j : Nat} (h : (lvAll x y mc n (rangeKs 0 n)).2.2 = true) (hj : j < n) :
    (lvRow x (y.getD ((0 : Int) + (j : Int)).toNat 0) ((0 : Int) + (j : Int)) (lvAll x y mc n (rangeKs 0 j)).2.1 (rangeKs 0 n)).2.2.1 ≤ mc := by
  obtain ⟨d, rfl⟩ : ∃ d, n = j + 1 + d := ⟨n - (j + 1), by omega⟩
  have h1 := lvAll_pre d (j + 1) h
  rw [rangeKs_succ, lvAll_snoc] at h1
  unfold lvOut at h1
  simp only [Bool.and_eq_true, decide_eq_true_eq] at h1
  exact h1.2
theorem outer_turn {x y : List Nat} {mc : Int} {n : Nat} {LV : List Int → Int × List Int × Bool} {LR : List Int → Int × Int × Int × List Int} {pre : List Int} {k r : Int} {row : List Int} (hLV : LV = lvAll x y mc n) (hLR : LR = lvRow x (y.getD k.toNat 0) k (LV pre).2.1)
    (h2 : r = (LR (rangeKs 0 n)).2.1) (h4 : row = (LR (rangeKs 0 n)).2.2.2) (h5 : row.length = n) (hk : k = 0 + (pre.length : Int)) (hp : pre = rangeKs 0 pre.length) :
    r = (LV (pre ++ [k])).1 ∧ row = (LV (pre ++ [k])).2.1 ∧ row.length = n ∧ pre ++ [k] = rangeKs 0 (pre ++ [k]).length := by
  have e : LV (pre ++ [k]) = lvOut x y mc n (LV pre) k := by rw [hLV, lvAll_snoc]
  refine ⟨?_, ?_, h5, ?_⟩
  · rw [e, h2, hLR]; rfl
  · rw [e, h4, hLR]; rfl
  · rw [List.length_append, List.length_singleton, rangeKs_succ, ← hp, hk]
section
variable {prog : Program} {w : World} {A : Around} {E : Value → Shared → Prop} {s : Shared} {h₀ : Heap} {L : Addr} {m : Str → Option Value} {news : List (Addr × Obj)}
theorem list_range2 {r : Addr} {a b c : Int} {t u v : Tok} {n : Nat} {Q : Value → Shared → Prop} (hh : A.handled = none) (F : Fr h₀ L s.heap m) (N : News h₀ L s.heap news)
    (hr : IsRange s.heap r a b c t u v) (hsmall : Builtin.Range.small a b c = true) (hn : Builtin.Range.rangeSize a b c = (n : Int)) (hlen : n ≤ 2 ^ 24)
    (hQ : ∀ D c' h' tk (ys : List Value), Fr h₀ L h' m → News h₀ L h' ((D, listOf ys.toArray c') :: news) → IntsAre ys (rangeInts a c n) → Q (.ref D) { s with heap := h', toks := tk }) :
    wpAny (model prog w) A (call (.type "list") [.ref r]) Q E s := by
  refine list_rangeD hh F N hr hsmall hn hlen ?_
  intro h' tk ys F' N' _ n' _ np cr
  obtain ⟨c', N''⟩ := made_enters np F' N' n'
  exact hQ _ c' h' tk ys F' N'' (IntsAre.ofCarried cr)
end
end

section
section
variable {M : Model} {A : Around} {E : Value → Shared → Prop} {s : Shared} {h₀ : Heap} {L : Addr} {m : Str → Option Value} {news : List (Addr × Obj)}
/-- a test's end: its answer, the frame and the ledger as they stood -/
noncomputable def TEnd (h₀ : Heap) (L : Addr) (m : Str → Option Value) (news : List (Addr × Obj)) (s : Shared) (c b : Bool) (s' : Shared) : Prop :=
  b = c ∧ ∃ h' tk', s' = { s with heap := h', toks := tk' } ∧ Fr h₀ L h' m ∧ News h₀ L h' news
theorem test_cut {T : Sem Bool} {R : Bool → Shared → Prop} (c : Bool) (F : Fr h₀ L s.heap m) (N : News h₀ L s.heap news) (h1 : wpAny M A T (fun b s' => TEnd h₀ L m news s c b s') E s)
    (h2 : ∀ h' tk', Fr h₀ L h' m → News h₀ L h' news → R c { s with heap := h', toks := tk' }) : wpAny M A T R E s :=
  wpAny_mono h1 (fun b s' ⟨e1, h', tk', e2, F', N'⟩ => by subst e1; subst e2; exact h2 h' tk' F' N') fun _ _ e => e
/-- a statement's end: a name's new text -/
noncomputable def SEnd (h₀ : Heap) (L : Addr) (m : Str → Option Value) (news : List (Addr × Obj)) (s : Shared) (y X : Str) (f : Flow) (s' : Shared) : Prop :=
  f = .next ∧ ∃ h' tk' t', s' = { s with heap := h', toks := tk' } ∧ Fr h₀ L h' (fun z => if z = y then some (.str X t') else m z) ∧ News h₀ L h' news
theorem sEnd_mk {y X X' : Str} {h' : Heap} {tk' : Nat} {t' : Tok} (e : X' = X) (F : Fr h₀ L h' (fun z => if z = y then some (.str X' t') else m z)) (N : News h₀ L h' news) : SEnd h₀ L m news s y X .next { s with heap := h', toks := tk' } := by
  subst e; exact ⟨rfl, _, _, _, rfl, F, N⟩
theorem assign_cut {st : Stmt} {rest : List Stmt} {env : Env} {Q : Flow → Shared → Prop} (y X : Str) (_F : Fr h₀ L s.heap m) (_N : News h₀ L s.heap news) (h1 : wpAny M A (exec st env) (fun f s' => SEnd h₀ L m news s y X f s') E s)
    (h2 : ∀ h' tk' t', Fr h₀ L h' (fun z => if z = y then some (.str X t') else m z) → News h₀ L h' news → wpAny M A (execs rest env) Q E { s with heap := h', toks := tk' }) : wpAny M A (execs (st :: rest) env) Q E s := by
  refine wpAny_execs_cons (wpAny_mono h1 (fun f s' h => ?_) fun _ _ e => e)
  obtain ⟨e1, h', tk', t', e2, F', N'⟩ := h
  subst e1; subst e2
  exact h2 h' tk' t' F' N'
end
theorem mem_head_app {α : Type} {a : α} {l k : List α} : ∀ p ∈ a :: l, p ∈ a :: (l ++ k) := fun _ h => (List.mem_cons.mp h).elim (fun e => e ▸ List.mem_cons_self) fun m => List.mem_cons_of_mem _ (List.mem_append_left _ m)

set_option maxHeartbeats 0 in
theorem c_lev (w : World) (xa xb : Str) (zP zM zN zS : List Nat) (ta tb : Tok) (mc : Int) (tm : Tok) (eA : xa.cps.toList = zP ++ zM ++ zS) (eB : xb.cps.toList = zP ++ zN ++ zS) (ha : xa.length ≤ 40) (hb : xb.length ≤ 40) (hm0 : 0 ≤ mc) (hm1 : mc < 100) (hMN : zM.length = zN.length) (hM0 : 0 < zM.length) (hhd : zM.getD 0 0 ≠ zN.getD 0 0) (hok : (lvAll zM zN mc zM.length (rangeKs 0 zM.length)).2.2 = true) (hlM : ∀ k, Builtin.Str.tooLong (Txt.lower ⟨#[zM.getD k 0]⟩).length = false) (hlN : ∀ k, Builtin.Str.tooLong (Txt.lower ⟨#[zN.getD k 0]⟩).length = false) (hlast : zM.getD (zM.length - 1) 0 ≠ zN.getD (zN.length - 1) 0) (news : List (Addr × Obj)) : Ctr w 20 150 127 [.str xa ta, .str xb tb, .int mc tm] news (RetVal (fun t => .int (lvAll zM zN mc zM.length (rangeKs 0 zM.length)).1 t) news) := by
  k_with "LeaveK" => (k_dflt (refine' leaveM ?hM ?hN ?G ?k1 ?k2 ?sub ?_; (case G => assumption); (case hM => assumption); (case hN => assumption); (case k1 => k_asm); (case k2 => k_asm); (case sub => lcg_sub)); intro kF kN kM; (try dsimp only))
  k_with "CompSrcT" => (k_here; k_dflt (first | (refine LCt.CompSrcT.range (n := 4) (by rfl) (by k_asm) (by k_asm) (by assumption) (by first | decide | rfl) (by first | rfl | decide) (by first | size_fits | exact Nat.le_of_ble_eq_true rfl) ?_; intro g') | (refine LCt.CompSrcT.range (n := 3) (by rfl) (by k_asm) (by k_asm) (by assumption) (by first | decide | rfl) (by first | rfl | decide) (by first | size_fits | exact Nat.le_of_ble_eq_true rfl) ?_; intro g') | (refine LCt.CompSrcT.range (n := 2) (by rfl) (by k_asm) (by k_asm) (by assumption) (by first | decide | rfl) (by first | rfl | decide) (by first | size_fits | exact Nat.le_of_ble_eq_true rfl) ?_; intro g') | (refine LCt.CompSrcT.range (n := 1) (by rfl) (by k_asm) (by k_asm) (by assumption) (by first | decide | rfl) (by first | rfl | decide) (by first | size_fits | exact Nat.le_of_ble_eq_true rfl) ?_; intro g') | (refine LCt.CompSrcT.range (n := 0) (by rfl) (by k_asm) (by k_asm) (by assumption) (by first | decide | rfl) (by first | rfl | decide) (by first | size_fits | exact Nat.le_of_ble_eq_true rfl) ?_; intro g')))
  k_with "CompRestT" => (refine stop_out ?_)
  k_with "TurnT" => (refine TurnT.mk (by first | exact fun _ h => h | lcg_sub) ?_ (by first | exact StrIs.mk | exact IntIs.mk (by first | rfl | decide | omega)); (try dsimp only); first | assumption | (with_unfolding_all exact decide_eq_true (by assumption)) | (simp_all; done))
  k_with "TurnF" => (refine TurnF.mk (by first | exact fun _ h => h | lcg_sub) ?_; (try dsimp only); first | assumption | (with_unfolding_all exact decide_eq_false (by assumption)) | (simp_all; done))
  k_with "eval ListComp" => (k_here; (with_reducible show wpAny _ _ (eval (Expr.ListComp _ _ _ _) _) _ _ _); first | (lct_look; lcg_calm; k_dflt (refine LCt.ListComp_T (F₀ := by k_asm) (by with_unfolding_all rfl) (by decide) (by rfl) (by decide) (by rfl) ?_); k_dflt lct_toSrc) | (lcf_look; lcg_calm; k_dflt (refine LCg.ListComp_U (F₀ := by k_asm) (by with_unfolding_all rfl) (by decide) (by rfl) (by decide) (by rfl) ?_); k_dflt lcg_toSrc) | (lcg_look; lcg_calm; k_dflt (refine LCg.ListComp_U (F₀ := by k_asm) (by rfl) (by decide) (by rfl) (by decide) (by rfl) ?_); k_dflt lcg_toSrc))
  k_with "binaryOp Mult ref int" => (k_here; (with_reducible show wpAny _ _ (binaryOp Operator.Mult (Value.ref _) (Value.int _ _)) _ _ _); k_dflt (refine' KMa.mul ?F ?N ?l ?lo ?hi ?z ?e ?_; (case F => k_asm); (case N => k_asm); (case l => is_list); (case lo => first | omega | decide); (case hi => first | omega | decide); (case z => (simp only [List.length_cons, List.length_nil]; decide)); (case e => (simp only [Int.sub_zero, Int.sub_self, Int.reduceSub, Int.reduceToNat, Int.toNat_zero, List.replicate_succ, List.replicate_zero, List.flatten_cons, List.flatten_nil, List.cons_append, List.nil_append, List.append_nil]; first | done | exact rfl)); k_whole); intro D' h' F' N' l1; (try k_lt l1); (try k_sweep))
  k_with "CompRest" => (refine stop_out ?_)
  k_with "CompEnd" => k_dflt (first | (refine LCg.CompEnd.intro (by assumption) (by assumption) _ (fun _ h => h) (by assumption) (by lcg_src) ?_) | (refine LCg.CompEnd.intro (by assumption) (by assumption) _ (fun _ h => List.Mem.tail _ h) (by assumption) (by lcg_src) ?_))
  k_with "TurnV" => (refine TurnV.mk (fun _ h => h) (by first | exact StrIs.mk | exact IntIs.mk (by first | rfl | decide | omega) | rfl))
  k_with "FinE" => ((unfold LCg.FinE); intro D' h' tk' F' N' o1'; (replace o1' := off1H o1'); (try simp only [List.nil_append, List.cons_append] at N'); (try simp only [List.nil_append, List.cons_append] at o1'); (try dsimp only))
  k_with "FinA" => ((unfold LCg.FinA); intro D' h' tk' F' N' o1'; (replace o1' := off1H o1'); (try simp only [List.nil_append, List.cons_append] at N'); (try simp only [List.nil_append, List.cons_append] at o1'); (try dsimp only))
  k_with "subscriptTail Name Name ref int" => (k_here; (with_reducible show wpAny _ _ (subscriptTail _ _ (Value.ref _) (Value.int _ _)) _ _ _); k_dflt (refine' item_led ?N ?m ?a ?b ?x ?_; (case N => k_asm); (case m => k_mem); (case a => decide); (case b => decide); (case x => exact rfl)))
  k_with "subscriptTail Name Constant ref int" => (k_here; (with_reducible show wpAny _ _ (subscriptTail _ _ (Value.ref _) (Value.int _ _)) _ _ _); k_dflt (refine' item_led ?N ?m ?a ?b ?x ?_; (case N => k_asm); (case m => k_mem); (case a => decide); (case b => decide); (case x => exact rfl)))
  k_with "subscriptTail Name BinOp ref int" => (k_here; (with_reducible show wpAny _ _ (subscriptTail _ _ (Value.ref _) (Value.int _ _)) _ _ _); k_dflt (refine' item_led ?N ?m ?a ?b ?x ?_; (case N => k_asm); (case m => k_mem); (case a => decide); (case b => decide); (case x => exact rfl)))
  k_with "eval Name" => (k_here; (with_reducible show wpAny _ _ (eval (Expr.Name _ _) (compEnvC _ _ _ _)) _ _ _); k_dflt (first | (refine' lcf_cell ?N ?c ?m ?d ?_ ?a ?b; (case b => exact rfl); (case a => exact rfl); (case N => k_asm); (case c => exact rfl); (case m => k_mem); (case d => k_asm)) | (refine' LCgL.ld_own ?N ?m ?h ?x ?_ ?a ?b; (case b => exact rfl); (case a => exact rfl); (case N => k_asm); (case x => with_reducible assumption); (case m => k_mem); (case h => with_reducible assumption))))
  k_with "exec While BoolOp cons nil" => (refine stop_out ?_)
  k_with "call ref" => (refine stop_out ?_)
  k_with "pyIter ref" => (refine stop_out ?_)
  k_with "call type:list" => (refine stop_out ?_)
  k_with "TEnd" => (refine stop_out ?_)
  k_with "subscriptTail Name Slice str ref" => (k_here; (with_reducible show wpAny _ _ (subscriptTail _ (Expr.Slice none (some (Expr.BoolOp _ _ _)) none _) _ _) _ _ _); (with_reducible rename Fr _ _ _ _ => F'); (with_reducible rename News _ _ _ _ => N'); (refine slice_strN_nn (hsz := ?hsz) (s := ⟨_, _, _, _, _⟩) F' N' ?_); (case hsz => size_fits); intro _ _ _ _ _; (try rw [slice_all]))
  k_with "SEnd" => (refine stop_out ?_)
  k_with "InvEndN" => k_dflt (first | ((rename News _ _ _ _ => nE'); (refine kst_end ⟨_, _, _, _, _, _, _, _, _⟩ (by assumption) nE' (by (try dsimp only); exact mem_head_app) (by first | (intro p hp; kst_mem) | kst_anyIn) (by rfl) (by kst_facts) (by kst_all) (by kst_same) (by kst_p))) | kst_close)
  delta Ctr PG lo; k_fill
  intro mean mg mb dp un gd cn cs a ccd cl outer A₀ base h₀ L m s Q E B F X N T hk hd hu hret
  have NA := (news_nil (h₀ := h₀) (L := L) (h := s.heap))
  refine wpAny_call ?_
  k_dflt (refine' enterM ?k1 ?k2 ?k3 ?kM ?k4 ?k5 ?kA ?kF ?kK ?k6 ?k7 ?k8 ?k9 ?kB ?_ ?c2 ?c3 ?c4 ?c5; (case kA => exact rfl); (case kF => exact rfl); (case kK => assumption); (case k1 => k_asm); (case k2 => k_asm); (case k3 => k_asm); (case kM => exact N); (case k4 => exact NA); (case k5 => k_asm); (case k6 => k_is); (case k7 => k_is); (case k8 => ktr_room); (case k9 => first | exact BindsTo.of_eq rfl | exact binds_K (by k_in) rfl (by k_is) rfl rfl rfl); (case c5 => decide); (case kB => exact locs rfl); (case c2 => exact rfl); (case c3 => exact rfl); (case c4 => exact rfl); k_whole; intro g' L' h' G' FG' F' N' B' X' T' l1; (try k_lt l1); (try dsimp only); (try k_lift B'); (try k_fold))
  have lA : xa.length = zP.length + zM.length + zS.length := by have := congrArg List.length eA; simpa [Str.length, Nat.add_assoc] using this
  have lB : xb.length = zP.length + zM.length + zS.length := by have := congrArg List.length eB; rw [hMN]; simpa [Str.length, Nat.add_assoc] using this
  k_steps
  · exfalso
    rename (xa == xb) = true => hq
    have hq2 := beq_iff_eq.mp hq
    rw [hq2, eB] at eA
    have h3 := List.append_cancel_left (by simpa [List.append_assoc] using eA : zP ++ (zN ++ zS) = zP ++ (zM ++ zS))
    have h4 := List.append_cancel_right h3
    exact hhd (by rw [h4])
  refine stop_in ?_
  k_while (fun _ pre => 0 ≤ pre ∧ pre ≤ (zP.length : Int)) (fun _ pre => zP.length - pre.toNat) "pre"
  rename Int => p9
  have i0 : 0 ≤ p9 := by assumption
  have i1 : p9 ≤ (zP.length : Int) := by assumption
  refine test_cut (decide (p9 < (zP.length : Int))) kFr kNews ?t1 ?t2
  case t1 =>
    k_steps
    all_goals (
      refine stop_in ?_
      refine ⟨?_, _, _, rfl, by k_asm, by k_asm⟩
      first
      | (rename (Txt.item xa p9 == Txt.item xb p9) = _ => hq; rw [pre_true eA eB hMN hM0 hhd i0 i1] at hq; exact hq.symm)
      | (exfalso; omega))
  case t2 =>
    intro h9 tk9 F9 N9
    by_cases hlt : p9 < (zP.length : Int)
    · rw [decide_eq_true hlt]
      show (if true = true then _ else _)
      rw [if_pos rfl]
      k_steps
    rw [decide_eq_false hlt]
    show (if false = true then _ else _)
    rw [if_neg (by decide)]
    have e9 : p9 = (zP.length : Int) := by omega
    k_steps
    refine stop_in ?_
    have eA1 : (Txt.slice xa (some p9) none).cps.toList = zM ++ zS := by
      rw [slice_from eA i0 (by rw [List.length_append, List.length_append]; omega), show p9.toNat = zP.length by omega, List.append_assoc, List.drop_left]
    have eB1 : (Txt.slice xb (some p9) none).cps.toList = zN ++ zS := by
      rw [slice_from eB i0 (by rw [List.length_append, List.length_append]; omega), show p9.toNat = zP.length by omega, List.append_assoc, List.drop_left]
    generalize Txt.slice xa (some p9) none = x1 at *
    generalize Txt.slice xb (some p9) none = y1 at *
    have lA1 : x1.length = zM.length + zS.length := by rw [len_list eA1, List.length_append]
    have lB1 : y1.length = zM.length + zS.length := by rw [len_list eB1, List.length_append, hMN]
    k_while (fun _ post => post ≤ 0 ∧ -(zS.length : Int) ≤ post) (fun _ post => (post + (zS.length : Int)).toNat) "post"
    rename Int => q9
    have j0 : q9 ≤ 0 := by assumption
    have j1 : -(zS.length : Int) ≤ q9 := by assumption
    have f1 : q9 ≠ 0 → 0 < (Txt.slice x1 none (some q9)).length := fun h => by
      rw [len_list (slice_neg eA1 (by omega) (by rw [List.length_append]; omega)), List.length_take, List.length_append]; omega
    have f2 : q9 ≠ 0 → 0 < (Txt.slice y1 none (some q9)).length := fun h => by
      rw [len_list (slice_neg eB1 (by omega) (by rw [List.length_append]; omega)), List.length_take, List.length_append]; omega
    refine test_cut (decide (-(zS.length : Int) < q9)) kFr kNews ?t3 ?t4
    case t3 =>
      k_steps
      all_goals (
        refine stop_in ?_
        refine ⟨?_, _, _, rfl, by k_asm, by k_asm⟩
        first
        | (rename (Txt.item x1 (q9 - 1) == Txt.item y1 (q9 - 1)) = _ => hq; rw [post_true eA1 eB1 hMN hM0 hlast j0 j1] at hq; exact hq.symm)
        | (exfalso; omega))
    case t4 =>
      intro h9 tk9 F9 N9
      by_cases hlt : -(zS.length : Int) < q9
      · rw [decide_eq_true hlt]
        show (if true = true then _ else _)
        rw [if_pos rfl]
        k_steps
      rw [decide_eq_false hlt]
      show (if false = true then _ else _)
      rw [if_neg (by decide)]
      have e9 : q9 = -(zS.length : Int) := by omega
      obtain ⟨x2, hx2⟩ : ∃ x2 : Str, x2.cps.toList = zM := ⟨⟨zM.toArray⟩, by simp⟩
      obtain ⟨y2, hy2⟩ : ∃ y2 : Str, y2.cps.toList = zN := ⟨⟨zN.toArray⟩, by simp⟩
      have hxs : q9 ≠ 0 → Txt.slice x1 none (some q9) = x2 := fun h => str_ext (by
        rw [slice_neg eA1 (by omega) (by rw [List.length_append]; omega), hx2, List.length_append, show (q9 + ((zM.length + zS.length : Nat) : Int)).toNat = zM.length by omega, List.take_left])
      have hys : q9 ≠ 0 → Txt.slice y1 none (some q9) = y2 := fun h => str_ext (by
        rw [slice_neg eB1 (by omega) (by rw [List.length_append]; omega), hy2, List.length_append, show (q9 + ((zN.length + zS.length : Nat) : Int)).toNat = zN.length by omega, List.take_left])
      have hx0 : q9 = 0 → x1 = x2 := fun h => str_ext (by rw [eA1, hx2, List.length_eq_zero_iff.mp (show zS.length = 0 by omega), List.append_nil])
      have hy0 : q9 = 0 → y1 = y2 := fun h => str_ext (by rw [eB1, hy2, List.length_eq_zero_iff.mp (show zS.length = 0 by omega), List.append_nil])
      dsimp only
      refine assign_cut (Str.ofString "a") x2 F9 N9 ?t5 ?t6
      case t5 =>
        k_steps
        all_goals (
          refine stop_in ?_
          refine sEnd_mk ?_ (by k_asm) (by k_asm)
          first | exact hx0 (by omega) | exact hxs (by omega))
      case t6 =>
        intro h8 tk8 t8 F8 N8
        refine assign_cut (Str.ofString "b") y2 F8 N8 ?t7 ?t8
        case t7 =>
          k_steps
          all_goals (
            refine stop_in ?_
            refine sEnd_mk ?_ (by k_asm) (by k_asm)
            first | exact hy0 (by omega) | exact hys (by omega))
        case t8 =>
          intro h7 tk7 t7 F7 N7
          have lx2 : x2.length = zM.length := len_list hx2
          have ly2 : y2.length = zM.length := by rw [hMN]; exact len_list hy2
          have px2 : 0 < x2.length := by omega
          have py2 : 0 < y2.length := by omega
          have lxy : x2.length = y2.length := by omega
          have lx40 : x2.length ≤ 40 := by omega
          clear f1 f2 hxs hys hx0 hy0
          k_steps
          all_goals (try (exfalso; omega))
          refine stop_in ?_
          rename IsRange _ _ _ _ _ _ _ _ => rg
          rename Fr g' _ _ _ => F6
          rename News g' _ _ _ => N6
          obtain ⟨r1, r2⟩ := rng_two lx40
          refine list_range2 rfl F6 N6 rg r1 r2 (by omega) ?_
          intro D c5 h5 tk5 ys F5 N5 I5
          clear N6 F6 rg r1 r2
          k_steps
          refine stop_in ?_
          obtain ⟨LV, hLV⟩ : ∃ f : List Int → Int × List Int × Bool, f = lvAll zM zN mc x2.length := ⟨_, rfl⟩
          have hL0 : LV [] = (0, rangeInts 2 2 x2.length, true) := by rw [hLV]; rfl
          k_with "state" => first
            | exact ⟨by rw [hL0], by rw [hL0], rangeInts_length _ _ _, rfl⟩
            | exact inner_lt (hRs _ _) (by assumption) (by assumption) (by assumption) (by assumption) (by assumption) (by assumption)
            | exact inner_ge (hRs _ _) (by assumption) (by assumption) (by assumption) (by assumption) (by assumption) (by assumption)
            | exact outer_turn hLV hLR (by assumption) (by assumption) (by assumption) hkN hkP
          k_state (fun pre result row => result = (LV pre).1 ∧ row = (LV pre).2.1 ∧ row.length = x2.length ∧ pre = rangeKs 0 pre.length) "result" "row"
          · k_steps
            refine stop_in ?_
            obtain ⟨LR, hLR⟩ : ∃ f : List Int → Int × Int × Int × List Int, f = lvRow zM (zN.getD kN.toNat 0) kN (LV kPre).2.1 := ⟨_, rfl⟩
            have hR0 : LR [] = (kN * 2, kN * 2, 9223372036854775807, (LV kPre).2.1) := by rw [hLR]; rfl
            have hB : Txt.item y2 kN = ⟨#[zN.getD kN.toNat 0]⟩ := item_list hy2 (by omega) (by omega)
            have hRs : ∀ pre k, LR (pre ++ [k]) = lvStep zM (zN.getD kN.toNat 0) (LR pre) k := fun pre k => by rw [hLR, lvRow_snoc]
            have hkN : kN = 0 + (kPre.length : Int) := by assumption
            have hkP : kPre = rangeKs 0 kPre.length := by assumption
            k_with "state" => exact ⟨by rw [hR0], by rw [hR0], by rw [hR0], by rw [hR0]; assumption, by assumption⟩
            k_state (fun pre distance result minimum row => distance = (LR pre).1 ∧ result = (LR pre).2.1 ∧ minimum = (LR pre).2.2.1 ∧ row = (LR pre).2.2.2 ∧ row.length = x2.length) "distance" "result" "minimum" "row"
            · k_steps
              refine stop_in ?_
              refine' use_ctr (c_costv w _ _ _ _ _ _ hB (item_list hx2 (by omega) (by omega)) (hlN _) (hlM _) _) ?k1 ?k2 ?k3 ?k4 ?k5 ?kK ?kd ?ku ?_
              (case k1 => k_asm)
              (case k2 => k_asm)
              (case k3 => k_asm)
              (case k4 => k_asm)
              (case k5 => k_asm)
              (case kK => first | exact rfl | assumption)
              (case kd => ktr_room)
              (case ku => ktr_units)
              intro t9 h9 tk9 F9 N9
              (try dsimp only)
              k_steps
            · k_steps
              exfalso
              have hok2 : (lvAll zM zN mc x2.length (rangeKs 0 x2.length)).2.2 = true := by rw [lx2]; exact hok
              have key := least_ok (j := kPre.length) hok2 (by omega)
              rw [← hkN, ← hkP, ← hLV, ← hLR] at key
              rename (_ : Int) = (LR (rangeKs 0 x2.length)).2.2.1 => hq
              replace hq : _ = (LR (rangeKs 0 x2.length)).2.2.1 := hq
              omega
          · k_steps
            rename (_ : Int) = (LV (rangeKs 0 y2.length)).1 => hr
            rw [hLV, ly2, lx2] at hr
            rw [hr]
            exact hret _ _ _ (by k_asm) (by k_asm)
  k_with_none
end

section
local macro_rules | `(tactic| k_ne) => `(tactic| ((try dsimp only); (first | exact off7_a (by with_reducible assumption) (by k_mem) | exact Ne.symm (off7_a (by with_reducible assumption) (by k_mem)) | exact off7_b (by with_reducible assumption) (by k_mem) | exact Ne.symm (off7_b (by with_reducible assumption) (by k_mem)) | exact off7_c (by with_reducible assumption) (by k_mem) | exact Ne.symm (off7_c (by with_reducible assumption) (by k_mem)) | exact off7_d (by with_reducible assumption) (by k_mem) | exact Ne.symm (off7_d (by with_reducible assumption) (by k_mem)) | exact off7_e (by with_reducible assumption) (by k_mem) | exact Ne.symm (off7_e (by with_reducible assumption) (by k_mem)) | exact off7_f (by with_reducible assumption) (by k_mem) | exact Ne.symm (off7_f (by with_reducible assumption) (by k_mem)) | exact off7_g (by with_reducible assumption) (by k_mem) | exact Ne.symm (off7_g (by with_reducible assumption) (by k_mem)))))
local macro_rules | `(tactic| k_ne) => `(tactic| ((try dsimp only); (first | exact off4_d (by with_reducible assumption) (by k_mem) | exact Ne.symm (off4_d (by with_reducible assumption) (by k_mem)) | exact off4_e (by with_reducible assumption) (by k_mem) | exact Ne.symm (off4_e (by with_reducible assumption) (by k_mem)) | exact off4_f (by with_reducible assumption) (by k_mem) | exact Ne.symm (off4_f (by with_reducible assumption) (by k_mem)) | exact off4_g (by with_reducible assumption) (by k_mem) | exact Ne.symm (off4_g (by with_reducible assumption) (by k_mem)))))
local macro_rules | `(tactic| walk_at $s:str) => `(tactic| k_extra $s)

section
set_option maxHeartbeats 0 in
theorem seg0 (w : World) (mean : ExcName → Option Value) (mg mb : Str → Option Value) (s : Shared) (L' : Addr) (lp : Addr) (vs : List Value) (ns : List Int) (hi : IntsAre vs ns) (hlen : ns.length ≤ 63) (hl : s.heap.IsList lp vs.toArray) :
    SegAt w mean mg mb s L' 0 (LA s L' (fun m => m (Str.ofString "script") = some (.ref lp)) none none none none [])
      (fun s₂ => ∃ d0 d1 d2 td0 td1 td2 ld nd, (0 ≤ d0 ∧ d0 < 1000000) ∧ (0 ≤ d1 ∧ d1 < 1000000) ∧ (0 ≤ d2 ∧ d2 < 1000000) ∧ LA s L' (fun _ => True) (some (.ref ld)) none none none [(ld, listOf [.int d0 td0, .int d1 td1, .int d2 td2].toArray nd)] s₂) := by
  k_with "LeaveK" => (k_dflt (refine' leaveM ?hM ?hN ?G ?k1 ?k2 ?sub ?_; (case G => assumption); (case hM => assumption); (case hN => assumption); (case k1 => k_asm); (case k2 => k_asm); (case sub => lcg_sub)); intro kF kN kM; (try dsimp only))
  k_with "CompSrcT" => (k_here; k_dflt (first | (refine LCt.CompSrcT.range (n := 4) (by rfl) (by k_asm) (by k_asm) (by assumption) (by first | decide | rfl) (by first | rfl | decide) (by first | size_fits | exact Nat.le_of_ble_eq_true rfl) ?_; intro g') | (refine LCt.CompSrcT.range (n := 3) (by rfl) (by k_asm) (by k_asm) (by assumption) (by first | decide | rfl) (by first | rfl | decide) (by first | size_fits | exact Nat.le_of_ble_eq_true rfl) ?_; intro g') | (refine LCt.CompSrcT.range (n := 2) (by rfl) (by k_asm) (by k_asm) (by assumption) (by first | decide | rfl) (by first | rfl | decide) (by first | size_fits | exact Nat.le_of_ble_eq_true rfl) ?_; intro g') | (refine LCt.CompSrcT.range (n := 1) (by rfl) (by k_asm) (by k_asm) (by assumption) (by first | decide | rfl) (by first | rfl | decide) (by first | size_fits | exact Nat.le_of_ble_eq_true rfl) ?_; intro g') | (refine LCt.CompSrcT.range (n := 0) (by rfl) (by k_asm) (by k_asm) (by assumption) (by first | decide | rfl) (by first | rfl | decide) (by first | size_fits | exact Nat.le_of_ble_eq_true rfl) ?_; intro g')))
  k_with "CompRestT" => (refine stop_out ?_)
  k_with "TurnT" => (refine TurnT.mk (by first | exact fun _ h => h | lcg_sub) ?_ (by first | exact StrIs.mk | exact IntIs.mk (by first | rfl | decide | omega)); (try dsimp only); first | assumption | (with_unfolding_all exact decide_eq_true (by assumption)) | (simp_all; done))
  k_with "TurnF" => (refine TurnF.mk (by first | exact fun _ h => h | lcg_sub) ?_; (try dsimp only); first | assumption | (with_unfolding_all exact decide_eq_false (by assumption)) | (simp_all; done))
  k_with "eval ListComp" => (k_here; (with_reducible show wpAny _ _ (eval (Expr.ListComp _ _ _ _) _) _ _ _); first | (lct_look; lcg_calm; k_dflt (refine LCt.ListComp_T (F₀ := by k_asm) (by with_unfolding_all rfl) (by decide) (by rfl) (by decide) (by rfl) ?_); k_dflt lct_toSrc) | (lcf_look; lcg_calm; k_dflt (refine LCg.ListComp_U (F₀ := by k_asm) (by with_unfolding_all rfl) (by decide) (by rfl) (by decide) (by rfl) ?_); k_dflt lcg_toSrc) | (lcg_look; lcg_calm; k_dflt (refine LCg.ListComp_U (F₀ := by k_asm) (by rfl) (by decide) (by rfl) (by decide) (by rfl) ?_); k_dflt lcg_toSrc))
  k_with "binaryOp Mult ref int" => (k_here; (with_reducible show wpAny _ _ (binaryOp Operator.Mult (Value.ref _) (Value.int _ _)) _ _ _); k_dflt (refine' KMa.mul ?F ?N ?l ?lo ?hi ?z ?e ?_; (case F => k_asm); (case N => k_asm); (case l => is_list); (case lo => first | omega | decide); (case hi => first | omega | decide); (case z => (simp only [List.length_cons, List.length_nil]; decide)); (case e => (simp only [Int.sub_zero, Int.sub_self, Int.reduceSub, Int.reduceToNat, Int.toNat_zero, List.replicate_succ, List.replicate_zero, List.flatten_cons, List.flatten_nil, List.cons_append, List.nil_append, List.append_nil]; first | done | exact rfl)); k_whole); intro D' h' F' N' l1; (try k_lt l1); (try k_sweep))
  k_with "CompRest" => (refine stop_out ?_)
  k_with "CompEnd" => k_dflt (first | (refine LCg.CompEnd.intro (by assumption) (by assumption) _ (fun _ h => h) (by assumption) (by lcg_src) ?_) | (refine LCg.CompEnd.intro (by assumption) (by assumption) _ (fun _ h => List.Mem.tail _ h) (by assumption) (by lcg_src) ?_))
  k_with "TurnV" => (refine TurnV.mk (fun _ h => h) (by first | exact StrIs.mk | exact IntIs.mk (by first | rfl | decide | omega) | rfl))
  k_with "FinE" => ((unfold LCg.FinE); intro D' h' tk' F' N' o1'; (replace o1' := off1H o1'); (try simp only [List.nil_append, List.cons_append] at N'); (try simp only [List.nil_append, List.cons_append] at o1'); (try dsimp only))
  k_with "FinA" => ((unfold LCg.FinA); intro D' h' tk' F' N' o1'; (replace o1' := off1H o1'); (try simp only [List.nil_append, List.cons_append] at N'); (try simp only [List.nil_append, List.cons_append] at o1'); (try dsimp only))
  k_with "subscriptTail Name Name ref int" => (k_here; (with_reducible show wpAny _ _ (subscriptTail _ _ (Value.ref _) (Value.int _ _)) _ _ _); k_dflt (refine' item_led ?N ?m ?a ?b ?x ?_; (case N => k_asm); (case m => k_mem); (case a => decide); (case b => decide); (case x => exact rfl)))
  k_with "subscriptTail Name Constant ref int" => (k_here; (with_reducible show wpAny _ _ (subscriptTail _ _ (Value.ref _) (Value.int _ _)) _ _ _); k_dflt (refine' item_led ?N ?m ?a ?b ?x ?_; (case N => k_asm); (case m => k_mem); (case a => decide); (case b => decide); (case x => exact rfl)))
  k_with "subscriptTail Name BinOp ref int" => (k_here; (with_reducible show wpAny _ _ (subscriptTail _ _ (Value.ref _) (Value.int _ _)) _ _ _); k_dflt (refine' item_led ?N ?m ?a ?b ?x ?_; (case N => k_asm); (case m => k_mem); (case a => decide); (case b => decide); (case x => exact rfl)))
  k_with "eval Name" => (k_here; (with_reducible show wpAny _ _ (eval (Expr.Name _ _) (compEnvC _ _ _ _)) _ _ _); k_dflt (first | (refine' lcf_cell ?N ?c ?m ?d ?_ ?a ?b; (case b => exact rfl); (case a => exact rfl); (case N => k_asm); (case c => exact rfl); (case m => k_mem); (case d => k_asm)) | (refine' LCgL.ld_own ?N ?m ?h ?x ?_ ?a ?b; (case b => exact rfl); (case a => exact rfl); (case N => k_asm); (case x => with_reducible assumption); (case m => k_mem); (case h => with_reducible assumption))))
  k_with "SegE" => (refine stop_out ?_)
  k_with "CompSrc" => (k_here; k_dflt (refine LCg.CompSrc.range (n := 4) (by rfl) (by k_asm) (by k_asm) (by assumption) (by first | decide | rfl) (by first | rfl | decide) (by first | size_fits | exact Nat.le_of_ble_eq_true rfl) ?_; intro g'))
  k_with "call ref" => (refine stop_out ?_)
  delta SegAt PG lo; k_fill
  intro X T B'
  refine' cellAt_of ?ho ?_
  case ho => k_is
  intro E
  refine LA.each ?_
  intro h' tk' gens' m' o1 o2 o3 o4 o5 o6 o7 bare hm F' N' e1 e2 e3 e4 e5 e6 e7 off
  dsimp only [nthS]
  replace F' := fr_knownG F' hm
  k_steps
  refine stop_in ?_
  refine' use_ctr (c_drawn w lp vs ns hi hlen _) ?k1 ?k2 ?k3 ?k4 ?k5 ?kK ?kd ?ku ?_
  (case k1 => k_asm)
  (case k2 => k_asm)
  (case k3 => k_asm)
  (case k4 => k_asm)
  (case k5 => k_asm)
  (case kK => first | exact rfl | assumption)
  (case kd => first | ktr_room | decide +kernel)
  (case ku => first | ktr_units | decide +kernel)
  refine ⟨hl, fun d0 d1 d2 td0 td1 td2 ld nd h9 tk9 hd0 hd1 hd2 F9 N9 o9 => ?_⟩
  (replace o9 := off1H_of o9)
  (try dsimp only)
  k_steps
  all_goals (
    (try refine stop_in ?_)
    (try dsimp only)
    exact ⟨rfl, d0, d1, d2, td0, td1, td2, ld, nd, hd0, hd1, hd2, LA.mk bare (by k_asm) trivial (by k_asm) (by k_mem) (by k_mem) (by k_mem) (by k_mem) (by k_mem) (by k_mem) (by k_mem) (by assumption) (by assumption) (by assumption) (by assumption) (by assumption) (by assumption) (by assumption) (by lcg_sub) (by first | with_reducible assumption | exact off7_sub (by with_reducible assumption) (by lcg_sub) | exact off7_cons (by first | with_reducible assumption | exact off1H_at (by with_reducible assumption) (by k_mem)) (by first | with_reducible assumption | exact off1H_at (by with_reducible assumption) (by k_mem)) (by first | with_reducible assumption | exact off1H_at (by with_reducible assumption) (by k_mem)) (by first | with_reducible assumption | exact off1H_at (by with_reducible assumption) (by k_mem)) (by first | with_reducible assumption | exact off1H_at (by with_reducible assumption) (by k_mem)) (by first | with_reducible assumption | exact off1H_at (by with_reducible assumption) (by k_mem)) (by first | with_reducible assumption | exact off1H_at (by with_reducible assumption) (by k_mem)) (by first | with_reducible assumption | exact off7_sub (by with_reducible assumption) (by lcg_sub) | exact off7_nil))⟩)
  k_with_none
end

section
set_option maxHeartbeats 0 in
theorem seg1 (w : World) (mean : ExcName → Option Value) (mg mb : Str → Option Value) (s : Shared) (L' : Addr) (d0 d1 d2 : Int) (td0 td1 td2 : Tok) (ld nd : Nat) (hd0 : 0 ≤ d0 ∧ d0 < 1000000) (hd1 : 0 ≤ d1 ∧ d1 < 1000000) (hd2 : 0 ≤ d2 ∧ d2 < 1000000) :
    SegAt w mean mg mb s L' 1 (LA s L' (fun _ => True) (some (.ref ld)) none none none [(ld, listOf [.int d0 td0, .int d1 td1, .int d2 td2].toArray nd)])
      (fun s₂ => ∃ tm, LA s L' (fun m => m (Str.ofString "moves") = some (.int (15 - d0.fmod 12) tm)) (some (.ref ld)) none none none [(ld, listOf [.int d0 td0, .int d1 td1, .int d2 td2].toArray nd)] s₂) := by
  k_with "LeaveK" => (k_dflt (refine' leaveM ?hM ?hN ?G ?k1 ?k2 ?sub ?_; (case G => assumption); (case hM => assumption); (case hN => assumption); (case k1 => k_asm); (case k2 => k_asm); (case sub => lcg_sub)); intro kF kN kM; (try dsimp only))
  k_with "CompSrcT" => (k_here; k_dflt (first | (refine LCt.CompSrcT.range (n := 4) (by rfl) (by k_asm) (by k_asm) (by assumption) (by first | decide | rfl) (by first | rfl | decide) (by first | size_fits | exact Nat.le_of_ble_eq_true rfl) ?_; intro g') | (refine LCt.CompSrcT.range (n := 3) (by rfl) (by k_asm) (by k_asm) (by assumption) (by first | decide | rfl) (by first | rfl | decide) (by first | size_fits | exact Nat.le_of_ble_eq_true rfl) ?_; intro g') | (refine LCt.CompSrcT.range (n := 2) (by rfl) (by k_asm) (by k_asm) (by assumption) (by first | decide | rfl) (by first | rfl | decide) (by first | size_fits | exact Nat.le_of_ble_eq_true rfl) ?_; intro g') | (refine LCt.CompSrcT.range (n := 1) (by rfl) (by k_asm) (by k_asm) (by assumption) (by first | decide | rfl) (by first | rfl | decide) (by first | size_fits | exact Nat.le_of_ble_eq_true rfl) ?_; intro g') | (refine LCt.CompSrcT.range (n := 0) (by rfl) (by k_asm) (by k_asm) (by assumption) (by first | decide | rfl) (by first | rfl | decide) (by first | size_fits | exact Nat.le_of_ble_eq_true rfl) ?_; intro g')))
  k_with "CompRestT" => (refine stop_out ?_)
  k_with "TurnT" => (refine TurnT.mk (by first | exact fun _ h => h | lcg_sub) ?_ (by first | exact StrIs.mk | exact IntIs.mk (by first | rfl | decide | omega)); (try dsimp only); first | assumption | (with_unfolding_all exact decide_eq_true (by assumption)) | (simp_all; done))
  k_with "TurnF" => (refine TurnF.mk (by first | exact fun _ h => h | lcg_sub) ?_; (try dsimp only); first | assumption | (with_unfolding_all exact decide_eq_false (by assumption)) | (simp_all; done))
  k_with "eval ListComp" => (k_here; (with_reducible show wpAny _ _ (eval (Expr.ListComp _ _ _ _) _) _ _ _); first | (lct_look; lcg_calm; k_dflt (refine LCt.ListComp_T (F₀ := by k_asm) (by with_unfolding_all rfl) (by decide) (by rfl) (by decide) (by rfl) ?_); k_dflt lct_toSrc) | (lcf_look; lcg_calm; k_dflt (refine LCg.ListComp_U (F₀ := by k_asm) (by with_unfolding_all rfl) (by decide) (by rfl) (by decide) (by rfl) ?_); k_dflt lcg_toSrc) | (lcg_look; lcg_calm; k_dflt (refine LCg.ListComp_U (F₀ := by k_asm) (by rfl) (by decide) (by rfl) (by decide) (by rfl) ?_); k_dflt lcg_toSrc))
  k_with "binaryOp Mult ref int" => (k_here; (with_reducible show wpAny _ _ (binaryOp Operator.Mult (Value.ref _) (Value.int _ _)) _ _ _); k_dflt (refine' KMa.mul ?F ?N ?l ?lo ?hi ?z ?e ?_; (case F => k_asm); (case N => k_asm); (case l => is_list); (case lo => first | omega | decide); (case hi => first | omega | decide); (case z => (simp only [List.length_cons, List.length_nil]; decide)); (case e => (simp only [Int.sub_zero, Int.sub_self, Int.reduceSub, Int.reduceToNat, Int.toNat_zero, List.replicate_succ, List.replicate_zero, List.flatten_cons, List.flatten_nil, List.cons_append, List.nil_append, List.append_nil]; first | done | exact rfl)); k_whole); intro D' h' F' N' l1; (try k_lt l1); (try k_sweep))
  k_with "CompRest" => (refine stop_out ?_)
  k_with "CompEnd" => k_dflt (first | (refine LCg.CompEnd.intro (by assumption) (by assumption) _ (fun _ h => h) (by assumption) (by lcg_src) ?_) | (refine LCg.CompEnd.intro (by assumption) (by assumption) _ (fun _ h => List.Mem.tail _ h) (by assumption) (by lcg_src) ?_))
  k_with "TurnV" => (refine TurnV.mk (fun _ h => h) (by first | exact StrIs.mk | exact IntIs.mk (by first | rfl | decide | omega) | rfl))
  k_with "FinE" => ((unfold LCg.FinE); intro D' h' tk' F' N' o1'; (replace o1' := off1H o1'); (try simp only [List.nil_append, List.cons_append] at N'); (try simp only [List.nil_append, List.cons_append] at o1'); (try dsimp only))
  k_with "FinA" => ((unfold LCg.FinA); intro D' h' tk' F' N' o1'; (replace o1' := off1H o1'); (try simp only [List.nil_append, List.cons_append] at N'); (try simp only [List.nil_append, List.cons_append] at o1'); (try dsimp only))
  k_with "subscriptTail Name Name ref int" => (k_here; (with_reducible show wpAny _ _ (subscriptTail _ _ (Value.ref _) (Value.int _ _)) _ _ _); k_dflt (refine' item_led ?N ?m ?a ?b ?x ?_; (case N => k_asm); (case m => k_mem); (case a => decide); (case b => decide); (case x => exact rfl)))
  k_with "subscriptTail Name Constant ref int" => (k_here; (with_reducible show wpAny _ _ (subscriptTail _ _ (Value.ref _) (Value.int _ _)) _ _ _); k_dflt (refine' item_led ?N ?m ?a ?b ?x ?_; (case N => k_asm); (case m => k_mem); (case a => decide); (case b => decide); (case x => exact rfl)))
  k_with "subscriptTail Name BinOp ref int" => (k_here; (with_reducible show wpAny _ _ (subscriptTail _ _ (Value.ref _) (Value.int _ _)) _ _ _); k_dflt (refine' item_led ?N ?m ?a ?b ?x ?_; (case N => k_asm); (case m => k_mem); (case a => decide); (case b => decide); (case x => exact rfl)))
  k_with "eval Name" => (k_here; (with_reducible show wpAny _ _ (eval (Expr.Name _ _) (compEnvC _ _ _ _)) _ _ _); k_dflt (first | (refine' lcf_cell ?N ?c ?m ?d ?_ ?a ?b; (case b => exact rfl); (case a => exact rfl); (case N => k_asm); (case c => exact rfl); (case m => k_mem); (case d => k_asm)) | (refine' LCgL.ld_own ?N ?m ?h ?x ?_ ?a ?b; (case b => exact rfl); (case a => exact rfl); (case N => k_asm); (case x => with_reducible assumption); (case m => k_mem); (case h => with_reducible assumption))))
  k_with "SegE" => (refine stop_out ?_)
  k_with "CompSrc" => (k_here; k_dflt (refine LCg.CompSrc.range (n := 4) (by rfl) (by k_asm) (by k_asm) (by assumption) (by first | decide | rfl) (by first | rfl | decide) (by first | size_fits | exact Nat.le_of_ble_eq_true rfl) ?_; intro g'))
  delta SegAt PG lo; k_fill
  intro X T B'
  refine' cellAt_of ?ho ?_
  case ho => k_is
  intro E
  refine LA.each ?_
  intro h' tk' gens' m' o1 o2 o3 o4 o5 o6 o7 bare hm F' N' e1 e2 e3 e4 e5 e6 e7 off
  dsimp only [nthS]
  k_steps
  all_goals (
    (try refine stop_in ?_)
    (try dsimp only)
    exact ⟨rfl, _, LA.mk bare (by k_asm) (by rfl) (by k_asm) (by k_mem) (by k_mem) (by k_mem) (by k_mem) (by k_mem) (by k_mem) (by k_mem) (by assumption) (by assumption) (by assumption) (by assumption) (by assumption) (by assumption) (by assumption) (by lcg_sub) (by first | with_reducible assumption | exact off7_sub (by with_reducible assumption) (by lcg_sub) | exact off7_cons (by first | with_reducible assumption | exact off1H_at (by with_reducible assumption) (by k_mem)) (by first | with_reducible assumption | exact off1H_at (by with_reducible assumption) (by k_mem)) (by first | with_reducible assumption | exact off1H_at (by with_reducible assumption) (by k_mem)) (by first | with_reducible assumption | exact off1H_at (by with_reducible assumption) (by k_mem)) (by first | with_reducible assumption | exact off1H_at (by with_reducible assumption) (by k_mem)) (by first | with_reducible assumption | exact off1H_at (by with_reducible assumption) (by k_mem)) (by first | with_reducible assumption | exact off1H_at (by with_reducible assumption) (by k_mem)) (by first | with_reducible assumption | exact off7_sub (by with_reducible assumption) (by lcg_sub) | exact off7_nil))⟩)
  k_with_none
end

section
noncomputable def letF (d k : Int) : Int := (d.fdiv 12 + k).fmod 26
noncomputable abbrev beh3 : List Str := [Str.ofString "", Str.ofString "\\\"", Str.ofString "\\\\"]
noncomputable abbrev behF (i : Int) : Str := beh3.getD i.toNat Str.empty
noncomputable def behK (d : Int) (k : Nat) : Str := behF ((d.fdiv (3 ^ k)).fmod 3)
noncomputable def pieK (d0 d1 : Int) (k : Nat) : Str := ⟨#[97 + (letF d0 k).toNat]⟩ ++ behK d1 k
theorem letF_rng (d k : Int) : 0 ≤ letF d k ∧ letF d k < 26 := ⟨fmod_lo _ (by decide), fmod_hi _ (by decide)⟩
theorem behF_is (x : Int) : behF (x.fmod 3) = Str.ofString "" ∨ behF (x.fmod 3) = Str.ofString "\\\"" ∨ behF (x.fmod 3) = Str.ofString "\\\\" := by
  have h0 : 0 ≤ x.fmod 3 := fmod_lo _ (by decide)
  have h1 : x.fmod 3 < 3 := fmod_hi _ (by decide)
  have : (x.fmod 3).toNat < 3 := by omega
  unfold behF
  generalize (x.fmod 3).toNat = n at this
  match n, this with
  | 0, _ => exact .inl rfl
  | 1, _ => exact .inr (.inl rfl)
  | 2, _ => exact .inr (.inr rfl)
theorem behK_len (d : Int) (k : Nat) : (behK d k).length < 3 := by
  unfold behK
  rcases behF_is (d.fdiv (3 ^ k)) with h | h | h <;> rw [h] <;> decide +kernel
theorem str_canLayAll0 : ∀ ns : List Str, (∀ x ∈ ns, PyData.strOk x = true) → PyData.canLayAll0 (ns.map PyData.str) = true
  | [], _ => rfl
  | x :: r, h => by simp [PyData.canLayAll0, PyData.canLay0, str_canLayAll0 r fun y hy => h y (.tail _ hy), h x (.head _)]
theorem str_depthAll : ∀ ns : List Str, PyData.depthAll (ns.map PyData.str) = 0
  | [] => rfl
  | _ :: r => by simp [PyData.depthAll, PyData.depth, str_depthAll r]
theorem str_shaped (ns : List Str) (h : ∀ x ∈ ns, PyData.strOk x = true) : SeqAt.shaped (.list (ns.map PyData.str)) = true := by
  simp [SeqAt.shaped, PyData.canLay0, PyData.depth, str_canLayAll0 ns h, str_depthAll]
theorem str_sameAll : ∀ ns : List Str, PySem.Spec.sameAll (ns.map PyData.str) (ns.map PyData.str) = true
  | [] => by simp [PySem.Spec.sameAll]
  | a :: r => by simp only [List.map_cons, PySem.Spec.sameAll, PySem.Spec.same, str_sameAll r]; simp
theorem str_carried : ∀ {vs : List Value} {ns : List Str}, PyProof.Rows.StrsAre vs ns → CarriedAll vs (ns.map PyData.str)
  | _, _, .nil => .nil
  | _, _, .cons _ t r => .cons (.str _ t) (str_carried r)
theorem ne_strs {prog : Program} {w : World} {A : Around} {E : Value → Shared → Prop} {s : Shared} {a b : Addr} {xs ys : List Value} {ns : List Str} {Q : Value → Shared → Prop} (ha : s.heap.IsList a xs.toArray) (hb : s.heap.IsList b ys.toArray) (hi : PyProof.Rows.StrsAre xs ns) (hj : PyProof.Rows.StrsAre ys ns) (hok : ∀ x ∈ ns, PyData.strOk x = true) (hu : A.units + 64 < cLine) (h : Q (.bool false) s) :
    wpAny (model prog w) A (compareOp .NotEq (.ref a) (.ref b)) Q E s :=
  ne_dataH_same (reads_newData ha (str_carried hi)) (reads_newData hb (str_carried hj)) (str_shaped _ hok) (str_shaped _ hok) hu (SeqAt.noMix_of_shape (.list .str) rfl _ _ (list_map_has fun _ => rfl) (list_map_has fun _ => rfl)) (by rw [show PySem.Spec.same (.list (ns.map PyData.str)) (.list (ns.map PyData.str)) = true by simp only [PySem.Spec.same]; exact str_sameAll ns]; exact h)
theorem add_strF {prog : Program} {w : World} {A : Around} {E : Value → Shared → Prop} {s : Shared} {x y : Str} {t u : Tok} {Q : Value → Shared → Prop} (hx : x.length < 100) (hy : y.length < 100) (h : ∀ t' k, Q (.str (x ++ y) t') { s with toks := k }) :
    wpAny (model prog w) A (binaryOp .Add (.str x t) (.str y u)) Q E s :=
  SBL.add (fun t' k _ => h t' k) (by rw [sizeLine_eq]; omega)
theorem pie_ok (n : Nat) (hn : n < 26) (b : Str) (hb : PyData.strOk b = true) : PyData.strOk (⟨#[97 + n]⟩ ++ b) = true := by
  unfold PyData.strOk at *
  rw [PySem.Str.cps_append, Array.all_append, hb, Bool.and_true]
  simp; omega
theorem pieK_ok (d0 d1 : Int) (k : Nat) : PyData.strOk (pieK d0 d1 k) = true := by
  have h := letF_rng d0 k
  refine pie_ok _ (by omega) _ ?_
  unfold behK
  rcases behF_is (d1.fdiv (3 ^ k)) with h | h | h <;> rw [h] <;> decide +kernel
theorem behK_lt (d : Int) (k : Nat) : (behK d k).length < 100 := Nat.lt_trans (behK_len d k) (by decide)
theorem behK_is (d : Int) (k : Nat) : behK d k = Str.ofString "" ∨ behK d k = Str.ofString "\\\"" ∨ behK d k = Str.ofString "\\\\" := behF_is _
end

section
set_option maxHeartbeats 0 in
theorem seg2 (w : World) (mean : ExcName → Option Value) (mg mb : Str → Option Value) (s : Shared) (L' : Addr) (d0 d1 d2 : Int) (td0 td1 td2 : Tok) (ld nd : Nat) (hd0 : 0 ≤ d0 ∧ d0 < 1000000) (hd1 : 0 ≤ d1 ∧ d1 < 1000000) (hd2 : 0 ≤ d2 ∧ d2 < 1000000) (tm : Tok) :
    SegAt w mean mg mb s L' 2 (LA s L' (fun m => m (Str.ofString "moves") = some (.int (15 - d0.fmod 12) tm)) (some (.ref ld)) none none none [(ld, listOf [.int d0 td0, .int d1 td1, .int d2 td2].toArray nd)])
      (fun s₂ => ∃ t0 t1 t2 t3 ll nl, LA s L' (fun m => m (Str.ofString "moves") = some (.int (15 - d0.fmod 12) tm)) (some (.ref ld)) (some (.ref ll)) none none [(ll, listOf [.int (letF d0 0) t0, .int (letF d0 1) t1, .int (letF d0 2) t2, .int (letF d0 3) t3].toArray nl), (ld, listOf [.int d0 td0, .int d1 td1, .int d2 td2].toArray nd)] s₂) := by
  k_with "LeaveK" => (k_dflt (refine' leaveM ?hM ?hN ?G ?k1 ?k2 ?sub ?_; (case G => assumption); (case hM => assumption); (case hN => assumption); (case k1 => k_asm); (case k2 => k_asm); (case sub => lcg_sub)); intro kF kN kM; (try dsimp only))
  k_with "CompSrcT" => (k_here; k_dflt (first | (refine LCt.CompSrcT.range (n := 4) (by rfl) (by k_asm) (by k_asm) (by assumption) (by first | decide | rfl) (by first | rfl | decide) (by first | size_fits | exact Nat.le_of_ble_eq_true rfl) ?_; intro g') | (refine LCt.CompSrcT.range (n := 3) (by rfl) (by k_asm) (by k_asm) (by assumption) (by first | decide | rfl) (by first | rfl | decide) (by first | size_fits | exact Nat.le_of_ble_eq_true rfl) ?_; intro g') | (refine LCt.CompSrcT.range (n := 2) (by rfl) (by k_asm) (by k_asm) (by assumption) (by first | decide | rfl) (by first | rfl | decide) (by first | size_fits | exact Nat.le_of_ble_eq_true rfl) ?_; intro g') | (refine LCt.CompSrcT.range (n := 1) (by rfl) (by k_asm) (by k_asm) (by assumption) (by first | decide | rfl) (by first | rfl | decide) (by first | size_fits | exact Nat.le_of_ble_eq_true rfl) ?_; intro g') | (refine LCt.CompSrcT.range (n := 0) (by rfl) (by k_asm) (by k_asm) (by assumption) (by first | decide | rfl) (by first | rfl | decide) (by first | size_fits | exact Nat.le_of_ble_eq_true rfl) ?_; intro g')))
  k_with "CompRestT" => (refine stop_out ?_)
  k_with "TurnT" => (refine TurnT.mk (by first | exact fun _ h => h | lcg_sub) ?_ (by first | exact StrIs.mk | exact IntIs.mk (by first | rfl | decide | omega)); (try dsimp only); first | assumption | (with_unfolding_all exact decide_eq_true (by assumption)) | (simp_all; done))
  k_with "TurnF" => (refine TurnF.mk (by first | exact fun _ h => h | lcg_sub) ?_; (try dsimp only); first | assumption | (with_unfolding_all exact decide_eq_false (by assumption)) | (simp_all; done))
  k_with "eval ListComp" => (k_here; (with_reducible show wpAny _ _ (eval (Expr.ListComp _ _ _ _) _) _ _ _); first | (lct_look; lcg_calm; k_dflt (refine LCt.ListComp_T (F₀ := by k_asm) (by with_unfolding_all rfl) (by decide) (by rfl) (by decide) (by rfl) ?_); k_dflt lct_toSrc) | (lcf_look; lcg_calm; k_dflt (refine LCg.ListComp_U (F₀ := by k_asm) (by with_unfolding_all rfl) (by decide) (by rfl) (by decide) (by rfl) ?_); k_dflt lcg_toSrc) | (lcg_look; lcg_calm; k_dflt (refine LCg.ListComp_U (F₀ := by k_asm) (by rfl) (by decide) (by rfl) (by decide) (by rfl) ?_); k_dflt lcg_toSrc))
  k_with "binaryOp Mult ref int" => (k_here; (with_reducible show wpAny _ _ (binaryOp Operator.Mult (Value.ref _) (Value.int _ _)) _ _ _); k_dflt (refine' KMa.mul ?F ?N ?l ?lo ?hi ?z ?e ?_; (case F => k_asm); (case N => k_asm); (case l => is_list); (case lo => first | omega | decide); (case hi => first | omega | decide); (case z => (simp only [List.length_cons, List.length_nil]; decide)); (case e => (simp only [Int.sub_zero, Int.sub_self, Int.reduceSub, Int.reduceToNat, Int.toNat_zero, List.replicate_succ, List.replicate_zero, List.flatten_cons, List.flatten_nil, List.cons_append, List.nil_append, List.append_nil]; first | done | exact rfl)); k_whole); intro D' h' F' N' l1; (try k_lt l1); (try k_sweep))
  k_with "CompRest" => (refine stop_out ?_)
  k_with "CompEnd" => k_dflt (first | (refine LCg.CompEnd.intro (by assumption) (by assumption) _ (fun _ h => h) (by assumption) (by lcg_src) ?_) | (refine LCg.CompEnd.intro (by assumption) (by assumption) _ (fun _ h => List.Mem.tail _ h) (by assumption) (by lcg_src) ?_))
  k_with "TurnV" => (refine TurnV.mk (fun _ h => h) (by first | exact StrIs.mk | exact IntIs.mk (by first | rfl | decide | omega) | rfl))
  k_with "FinE" => ((unfold LCg.FinE); intro D' h' tk' F' N' o1'; (replace o1' := off1H o1'); (try simp only [List.nil_append, List.cons_append] at N'); (try simp only [List.nil_append, List.cons_append] at o1'); (try dsimp only))
  k_with "FinA" => ((unfold LCg.FinA); intro D' h' tk' F' N' o1'; (replace o1' := off1H o1'); (try simp only [List.nil_append, List.cons_append] at N'); (try simp only [List.nil_append, List.cons_append] at o1'); (try dsimp only))
  k_with "subscriptTail Name Name ref int" => (k_here; (with_reducible show wpAny _ _ (subscriptTail _ _ (Value.ref _) (Value.int _ _)) _ _ _); k_dflt (refine' item_led ?N ?m ?a ?b ?x ?_; (case N => k_asm); (case m => k_mem); (case a => decide); (case b => decide); (case x => exact rfl)))
  k_with "subscriptTail Name Constant ref int" => (k_here; (with_reducible show wpAny _ _ (subscriptTail _ _ (Value.ref _) (Value.int _ _)) _ _ _); k_dflt (refine' item_led ?N ?m ?a ?b ?x ?_; (case N => k_asm); (case m => k_mem); (case a => decide); (case b => decide); (case x => exact rfl)))
  k_with "subscriptTail Name BinOp ref int" => (k_here; (with_reducible show wpAny _ _ (subscriptTail _ _ (Value.ref _) (Value.int _ _)) _ _ _); k_dflt (refine' item_led ?N ?m ?a ?b ?x ?_; (case N => k_asm); (case m => k_mem); (case a => decide); (case b => decide); (case x => exact rfl)))
  k_with "eval Name" => (k_here; (with_reducible show wpAny _ _ (eval (Expr.Name _ _) (compEnvC _ _ _ _)) _ _ _); k_dflt (first | (refine' lcf_cell ?N ?c ?m ?d ?_ ?a ?b; (case b => exact rfl); (case a => exact rfl); (case N => k_asm); (case c => exact rfl); (case m => k_mem); (case d => k_asm)) | (refine' LCgL.ld_own ?N ?m ?h ?x ?_ ?a ?b; (case b => exact rfl); (case a => exact rfl); (case N => k_asm); (case x => with_reducible assumption); (case m => k_mem); (case h => with_reducible assumption))))
  k_with "SegE" => (refine stop_out ?_)
  k_with "CompSrc" => (k_here; k_dflt (refine LCg.CompSrc.range (n := 4) (by rfl) (by k_asm) (by k_asm) (by assumption) (by first | decide | rfl) (by first | rfl | decide) (by first | size_fits | exact Nat.le_of_ble_eq_true rfl) ?_; intro g'))
  delta SegAt PG lo; k_fill
  intro X T B'
  refine' cellAt_of ?ho ?_
  case ho => k_is
  intro E
  refine LA.each ?_
  intro h' tk' gens' m' o1 o2 o3 o4 o5 o6 o7 bare hm F' N' e1 e2 e3 e4 e5 e6 e7 off
  dsimp only [nthS]
  replace F' := fr_knownG F' hm
  k_steps
  refine stop_in ?_
  refine restU [IntIs (letF d0 0), IntIs (letF d0 1), IntIs (letF d0 2), IntIs (letF d0 3)] _ rfl (by lcg_src) ⟨?_, ?_, ?_, ?_, trivial⟩ ?_
  · (intro v' I' oI' C' oC' D' m₂' h' tk' E' ys' hv' hC' hx' F' N' off' ne'; (first | lcg_open hv' | (obtain ⟨t9', hv9'⟩ := hv'; subst hv9')); (try dsimp only); k_steps)
  · (intro v' I' oI' C' oC' D' m₂' h' tk' E' ys' hv' hC' hx' F' N' off' ne'; (first | lcg_open hv' | (obtain ⟨t9', hv9'⟩ := hv'; subst hv9')); (try dsimp only); k_steps)
  · (intro v' I' oI' C' oC' D' m₂' h' tk' E' ys' hv' hC' hx' F' N' off' ne'; (first | lcg_open hv' | (obtain ⟨t9', hv9'⟩ := hv'; subst hv9')); (try dsimp only); k_steps)
  · (intro v' I' oI' C' oC' D' m₂' h' tk' E' ys' hv' hC' hx' F' N' off' ne'; (first | lcg_open hv' | (obtain ⟨t9', hv9'⟩ := hv'; subst hv9')); (try dsimp only); k_steps)
  intro ys9 hys9
  obtain ⟨y0, y1, y2, y3, rfl, ⟨_, rfl⟩, ⟨_, rfl⟩, ⟨_, rfl⟩, ⟨_, rfl⟩⟩ := hys9.four
  k_steps
  all_goals (
    (try refine stop_in ?_)
    (try dsimp only)
    exact ⟨rfl, _, _, _, _, _, _, LA.mk bare (by k_asm) (by rfl) (by k_asm) (by k_mem) (by k_mem) (by k_mem) (by k_mem) (by k_mem) (by k_mem) (by k_mem) (by assumption) (by assumption) (by assumption) (by assumption) (by assumption) (by assumption) (by assumption) (by lcg_sub) (by first | with_reducible assumption | exact off7_sub (by with_reducible assumption) (by lcg_sub) | exact off7_cons (by first | with_reducible assumption | exact off1H_at (by with_reducible assumption) (by k_mem)) (by first | with_reducible assumption | exact off1H_at (by with_reducible assumption) (by k_mem)) (by first | with_reducible assumption | exact off1H_at (by with_reducible assumption) (by k_mem)) (by first | with_reducible assumption | exact off1H_at (by with_reducible assumption) (by k_mem)) (by first | with_reducible assumption | exact off1H_at (by with_reducible assumption) (by k_mem)) (by first | with_reducible assumption | exact off1H_at (by with_reducible assumption) (by k_mem)) (by first | with_reducible assumption | exact off1H_at (by with_reducible assumption) (by k_mem)) (by first | with_reducible assumption | exact off7_sub (by with_reducible assumption) (by lcg_sub) | exact off7_cons (by first | with_reducible assumption | exact off1H_at (by with_reducible assumption) (by k_mem)) (by first | with_reducible assumption | exact off1H_at (by with_reducible assumption) (by k_mem)) (by first | with_reducible assumption | exact off1H_at (by with_reducible assumption) (by k_mem)) (by first | with_reducible assumption | exact off1H_at (by with_reducible assumption) (by k_mem)) (by first | with_reducible assumption | exact off1H_at (by with_reducible assumption) (by k_mem)) (by first | with_reducible assumption | exact off1H_at (by with_reducible assumption) (by k_mem)) (by first | with_reducible assumption | exact off1H_at (by with_reducible assumption) (by k_mem)) (by first | with_reducible assumption | exact off7_sub (by with_reducible assumption) (by lcg_sub) | exact off7_nil)))⟩)
  k_with_none
end

section
theorem item_strsK {prog : Program} {w : World} {A : Around} {E : Value → Shared → Prop} {s : Shared} {value slice : PySem.Expr} {l : Addr} {vs : List Value} {ys : List Str} {k : Int} {u : Tok} {Q : Value → Shared → Prop} (hl : s.heap.IsList l vs.toArray) (hi : PyProof.Rows.StrsAre vs ys)
    (h0 : 0 ≤ k) (h1 : k < ys.length) (hfit : k < 2 ^ 63) (h : ∀ t, Q (.str (ys.getD k.toNat Str.empty) t) s) (hs : subscripted slice false (.ref l) (.int k u) = operate [.ref l, .int k u] (getItem (.ref l) (.int k u))) :
    wpAny (model prog w) A (subscriptTail value slice (.ref l) (.int k u)) Q E s := by
  have hlt : k.toNat < ys.length := by omega
  have e : ys[k.toNat]? = some (ys.getD k.toNat Str.empty) := by simp [List.getD, hlt]
  obtain ⟨t, ht⟩ := hi.at e
  exact tail_any hl.typeIs slot_list_getitem.lookup (wpAny_getItem_list hl h0 hfit (by simpa using ht) (h t)) hs

set_option maxHeartbeats 0 in
theorem seg3 (w : World) (mean : ExcName → Option Value) (mg mb : Str → Option Value) (s : Shared) (L' : Addr) (d0 d1 d2 : Int) (td0 td1 td2 : Tok) (ld nd : Nat) (hd0 : 0 ≤ d0 ∧ d0 < 1000000) (hd1 : 0 ≤ d1 ∧ d1 < 1000000) (hd2 : 0 ≤ d2 ∧ d2 < 1000000) (tm : Tok) (t0 t1 t2 t3 : Tok) (ll nl : Nat) :
    SegAt w mean mg mb s L' 3 (LA s L' (fun m => m (Str.ofString "moves") = some (.int (15 - d0.fmod 12) tm)) (some (.ref ld)) (some (.ref ll)) none none [(ll, listOf [.int (letF d0 0) t0, .int (letF d0 1) t1, .int (letF d0 2) t2, .int (letF d0 3) t3].toArray nl), (ld, listOf [.int d0 td0, .int d1 td1, .int d2 td2].toArray nd)])
      (fun s₂ => ∃ u0 u1 u2 u3 lb nb, LA s L' (fun m => m (Str.ofString "moves") = some (.int (15 - d0.fmod 12) tm)) (some (.ref ld)) (some (.ref ll)) (some (.ref lb)) none [(lb, listOf [.str (behK d1 0) u0, .str (behK d1 1) u1, .str (behK d1 2) u2, .str (behK d1 3) u3].toArray nb), (ll, listOf [.int (letF d0 0) t0, .int (letF d0 1) t1, .int (letF d0 2) t2, .int (letF d0 3) t3].toArray nl), (ld, listOf [.int d0 td0, .int d1 td1, .int d2 td2].toArray nd)] s₂) := by
  k_with "LeaveK" => (k_dflt (refine' leaveM ?hM ?hN ?G ?k1 ?k2 ?sub ?_; (case G => assumption); (case hM => assumption); (case hN => assumption); (case k1 => k_asm); (case k2 => k_asm); (case sub => lcg_sub)); intro kF kN kM; (try dsimp only))
  k_with "CompSrcT" => (k_here; k_dflt (first | (refine LCt.CompSrcT.range (n := 4) (by rfl) (by k_asm) (by k_asm) (by assumption) (by first | decide | rfl) (by first | rfl | decide) (by first | size_fits | exact Nat.le_of_ble_eq_true rfl) ?_; intro g') | (refine LCt.CompSrcT.range (n := 3) (by rfl) (by k_asm) (by k_asm) (by assumption) (by first | decide | rfl) (by first | rfl | decide) (by first | size_fits | exact Nat.le_of_ble_eq_true rfl) ?_; intro g') | (refine LCt.CompSrcT.range (n := 2) (by rfl) (by k_asm) (by k_asm) (by assumption) (by first | decide | rfl) (by first | rfl | decide) (by first | size_fits | exact Nat.le_of_ble_eq_true rfl) ?_; intro g') | (refine LCt.CompSrcT.range (n := 1) (by rfl) (by k_asm) (by k_asm) (by assumption) (by first | decide | rfl) (by first | rfl | decide) (by first | size_fits | exact Nat.le_of_ble_eq_true rfl) ?_; intro g') | (refine LCt.CompSrcT.range (n := 0) (by rfl) (by k_asm) (by k_asm) (by assumption) (by first | decide | rfl) (by first | rfl | decide) (by first | size_fits | exact Nat.le_of_ble_eq_true rfl) ?_; intro g')))
  k_with "CompRestT" => (refine stop_out ?_)
  k_with "TurnT" => (refine TurnT.mk (by first | exact fun _ h => h | lcg_sub) ?_ (by first | exact StrIs.mk | exact IntIs.mk (by first | rfl | decide | omega)); (try dsimp only); first | assumption | (with_unfolding_all exact decide_eq_true (by assumption)) | (simp_all; done))
  k_with "TurnF" => (refine TurnF.mk (by first | exact fun _ h => h | lcg_sub) ?_; (try dsimp only); first | assumption | (with_unfolding_all exact decide_eq_false (by assumption)) | (simp_all; done))
  k_with "eval ListComp" => (k_here; (with_reducible show wpAny _ _ (eval (Expr.ListComp _ _ _ _) _) _ _ _); first | (lct_look; lcg_calm; k_dflt (refine LCt.ListComp_T (F₀ := by k_asm) (by with_unfolding_all rfl) (by decide) (by rfl) (by decide) (by rfl) ?_); k_dflt lct_toSrc) | (lcf_look; lcg_calm; k_dflt (refine LCg.ListComp_U (F₀ := by k_asm) (by with_unfolding_all rfl) (by decide) (by rfl) (by decide) (by rfl) ?_); k_dflt lcg_toSrc) | (lcg_look; lcg_calm; k_dflt (refine LCg.ListComp_U (F₀ := by k_asm) (by rfl) (by decide) (by rfl) (by decide) (by rfl) ?_); k_dflt lcg_toSrc))
  k_with "binaryOp Mult ref int" => (k_here; (with_reducible show wpAny _ _ (binaryOp Operator.Mult (Value.ref _) (Value.int _ _)) _ _ _); k_dflt (refine' KMa.mul ?F ?N ?l ?lo ?hi ?z ?e ?_; (case F => k_asm); (case N => k_asm); (case l => is_list); (case lo => first | omega | decide); (case hi => first | omega | decide); (case z => (simp only [List.length_cons, List.length_nil]; decide)); (case e => (simp only [Int.sub_zero, Int.sub_self, Int.reduceSub, Int.reduceToNat, Int.toNat_zero, List.replicate_succ, List.replicate_zero, List.flatten_cons, List.flatten_nil, List.cons_append, List.nil_append, List.append_nil]; first | done | exact rfl)); k_whole); intro D' h' F' N' l1; (try k_lt l1); (try k_sweep))
  k_with "CompRest" => (refine stop_out ?_)
  k_with "CompEnd" => k_dflt (first | (refine LCg.CompEnd.intro (by assumption) (by assumption) _ (fun _ h => h) (by assumption) (by lcg_src) ?_) | (refine LCg.CompEnd.intro (by assumption) (by assumption) _ (fun _ h => List.Mem.tail _ h) (by assumption) (by lcg_src) ?_))
  k_with "TurnV" => (refine TurnV.mk (fun _ h => h) (by first | exact StrIs.mk | exact IntIs.mk (by first | rfl | decide | omega) | rfl))
  k_with "FinE" => ((unfold LCg.FinE); intro D' h' tk' F' N' o1'; (replace o1' := off1H o1'); (try simp only [List.nil_append, List.cons_append] at N'); (try simp only [List.nil_append, List.cons_append] at o1'); (try dsimp only))
  k_with "FinA" => ((unfold LCg.FinA); intro D' h' tk' F' N' o1'; (replace o1' := off1H o1'); (try simp only [List.nil_append, List.cons_append] at N'); (try simp only [List.nil_append, List.cons_append] at o1'); (try dsimp only))
  k_with "subscriptTail Name Name ref int" => (k_here; (with_reducible show wpAny _ _ (subscriptTail _ _ (Value.ref _) (Value.int _ _)) _ _ _); k_dflt (refine' item_led ?N ?m ?a ?b ?x ?_; (case N => k_asm); (case m => k_mem); (case a => decide); (case b => decide); (case x => exact rfl)))
  k_with "subscriptTail Name Constant ref int" => (k_here; (with_reducible show wpAny _ _ (subscriptTail _ _ (Value.ref _) (Value.int _ _)) _ _ _); k_dflt (refine' item_led ?N ?m ?a ?b ?x ?_; (case N => k_asm); (case m => k_mem); (case a => decide); (case b => decide); (case x => exact rfl)))
  k_with "subscriptTail Name BinOp ref int" => (k_here; (with_reducible show wpAny _ _ (subscriptTail _ _ (Value.ref _) (Value.int _ _)) _ _ _); k_dflt (refine' item_led ?N ?m ?a ?b ?x ?_; (case N => k_asm); (case m => k_mem); (case a => decide); (case b => decide); (case x => exact rfl)))
  k_with "eval Name" => (k_here; (with_reducible show wpAny _ _ (eval (Expr.Name _ _) (compEnvC _ _ _ _)) _ _ _); k_dflt (first | (refine' lcf_cell ?N ?c ?m ?d ?_ ?a ?b; (case b => exact rfl); (case a => exact rfl); (case N => k_asm); (case c => exact rfl); (case m => k_mem); (case d => k_asm)) | (refine' LCgL.ld_own ?N ?m ?h ?x ?_ ?a ?b; (case b => exact rfl); (case a => exact rfl); (case N => k_asm); (case x => with_reducible assumption); (case m => k_mem); (case h => with_reducible assumption))))
  k_with "SegE" => (refine stop_out ?_)
  k_with "CompSrc" => (k_here; k_dflt (refine LCg.CompSrc.range (n := 4) (by rfl) (by k_asm) (by k_asm) (by assumption) (by first | decide | rfl) (by first | rfl | decide) (by first | size_fits | exact Nat.le_of_ble_eq_true rfl) ?_; intro g'))
  k_with "subscriptTail" => (k_here; (with_reducible show wpAny _ _ (subscriptTail _ _ (Value.ref _) (Value.int _ _)) _ _ _); k_dflt (refine' item_strsK (ys := beh3) ?l ?i ?a ?b ?c ?_ ?hs; (case l => is_list); (case i => exact .cons _ _ (.cons _ _ (.cons _ _ .nil))); (case a => exact fmod_lo _ (by decide)); (case b => exact Int.lt_of_lt_of_le (fmod_hi _ (by decide)) (by decide)); (case c => exact Int.lt_of_lt_of_le (fmod_hi _ (by decide)) (by decide)); (case hs => with_unfolding_all rfl)); intro t9)
  delta SegAt PG lo; k_fill
  intro X T B'
  refine' cellAt_of ?ho ?_
  case ho => k_is
  intro E
  refine LA.each ?_
  intro h' tk' gens' m' o1 o2 o3 o4 o5 o6 o7 bare hm F' N' e1 e2 e3 e4 e5 e6 e7 off
  dsimp only [nthS]
  replace F' := fr_knownG F' hm
  k_steps
  refine stop_in ?_
  refine restU [StrIs (behK d1 0), StrIs (behK d1 1), StrIs (behK d1 2), StrIs (behK d1 3)] _ rfl (by lcg_src) ⟨?_, ?_, ?_, ?_, trivial⟩ ?_
  · (intro v' I' oI' C' oC' D' m₂' h' tk' E' ys' hv' hC' hx' F' N' off' ne'; (first | lcg_open hv' | (obtain ⟨t9', hv9'⟩ := hv'; subst hv9')); (try dsimp only); k_steps)
  · (intro v' I' oI' C' oC' D' m₂' h' tk' E' ys' hv' hC' hx' F' N' off' ne'; (first | lcg_open hv' | (obtain ⟨t9', hv9'⟩ := hv'; subst hv9')); (try dsimp only); k_steps)
  · (intro v' I' oI' C' oC' D' m₂' h' tk' E' ys' hv' hC' hx' F' N' off' ne'; (first | lcg_open hv' | (obtain ⟨t9', hv9'⟩ := hv'; subst hv9')); (try dsimp only); k_steps)
  · (intro v' I' oI' C' oC' D' m₂' h' tk' E' ys' hv' hC' hx' F' N' off' ne'; (first | lcg_open hv' | (obtain ⟨t9', hv9'⟩ := hv'; subst hv9')); (try dsimp only); k_steps)
  intro ys9 hys9
  obtain ⟨y0, y1, y2, y3, rfl, ⟨_, rfl⟩, ⟨_, rfl⟩, ⟨_, rfl⟩, ⟨_, rfl⟩⟩ := hys9.four
  k_steps
  all_goals (
    (try refine stop_in ?_)
    (try dsimp only)
    exact ⟨rfl, _, _, _, _, _, _, LA.mk bare (by k_asm) (by rfl) (by k_asm) (by k_mem) (by k_mem) (by k_mem) (by k_mem) (by k_mem) (by k_mem) (by k_mem) (by assumption) (by assumption) (by assumption) (by assumption) (by assumption) (by assumption) (by assumption) (by lcg_sub) (by first | with_reducible assumption | exact off7_sub (by with_reducible assumption) (by lcg_sub) | exact off7_cons (by first | with_reducible assumption | exact off1H_at (by with_reducible assumption) (by k_mem)) (by first | with_reducible assumption | exact off1H_at (by with_reducible assumption) (by k_mem)) (by first | with_reducible assumption | exact off1H_at (by with_reducible assumption) (by k_mem)) (by first | with_reducible assumption | exact off1H_at (by with_reducible assumption) (by k_mem)) (by first | with_reducible assumption | exact off1H_at (by with_reducible assumption) (by k_mem)) (by first | with_reducible assumption | exact off1H_at (by with_reducible assumption) (by k_mem)) (by first | with_reducible assumption | exact off1H_at (by with_reducible assumption) (by k_mem)) (by first | with_reducible assumption | exact off7_sub (by with_reducible assumption) (by lcg_sub) | exact off7_cons (by first | with_reducible assumption | exact off1H_at (by with_reducible assumption) (by k_mem)) (by first | with_reducible assumption | exact off1H_at (by with_reducible assumption) (by k_mem)) (by first | with_reducible assumption | exact off1H_at (by with_reducible assumption) (by k_mem)) (by first | with_reducible assumption | exact off1H_at (by with_reducible assumption) (by k_mem)) (by first | with_reducible assumption | exact off1H_at (by with_reducible assumption) (by k_mem)) (by first | with_reducible assumption | exact off1H_at (by with_reducible assumption) (by k_mem)) (by first | with_reducible assumption | exact off1H_at (by with_reducible assumption) (by k_mem)) (by first | with_reducible assumption | exact off7_sub (by with_reducible assumption) (by lcg_sub) | exact off7_cons (by first | with_reducible assumption | exact off1H_at (by with_reducible assumption) (by k_mem)) (by first | with_reducible assumption | exact off1H_at (by with_reducible assumption) (by k_mem)) (by first | with_reducible assumption | exact off1H_at (by with_reducible assumption) (by k_mem)) (by first | with_reducible assumption | exact off1H_at (by with_reducible assumption) (by k_mem)) (by first | with_reducible assumption | exact off1H_at (by with_reducible assumption) (by k_mem)) (by first | with_reducible assumption | exact off1H_at (by with_reducible assumption) (by k_mem)) (by first | with_reducible assumption | exact off1H_at (by with_reducible assumption) (by k_mem)) (by first | with_reducible assumption | exact off7_sub (by with_reducible assumption) (by lcg_sub) | exact off7_nil))))⟩)
  k_with_none
end

section
theorem fdiv_rng {x d : Int} (h0 : 0 ≤ x) (h1 : x < 1000000) (hd : 1 ≤ d) : 0 ≤ Int.fdiv x d ∧ Int.fdiv x d < 1000000 := by
  rw [Int.fdiv_eq_ediv_of_nonneg _ (by omega)]
  refine ⟨Int.ediv_nonneg h0 (by omega), Int.lt_of_le_of_lt (Int.ediv_le_self _ h0) h1⟩
theorem c_pieceI (w : World) (l : Int) (h0 : 0 ≤ l) (h1 : l < 26) (tl : Tok) (beh : Str) (tb : Tok) (hb : beh = Str.ofString "" ∨ beh = Str.ofString "\\\"" ∨ beh = Str.ofString "\\\\") (wh : Int) (g0 : 0 ≤ wh) (g1 : wh < 1000000) (tw : Tok) (news : List (Addr × Obj)) :
    Ctr w 20 150 146 [.int l tl, .str beh tb, .int wh tw] news (RetVal (fun t => .str (⟨#[97 + l.toNat]⟩ ++ beh) t) news) := by
  obtain ⟨n, rfl⟩ := Int.eq_ofNat_of_zero_le h0
  exact c_piece w n (by omega) tl beh tb hb wh g0 g1 tw news

set_option maxHeartbeats 0 in
theorem seg4 (w : World) (mean : ExcName → Option Value) (mg mb : Str → Option Value) (s : Shared) (L' : Addr) (d0 d1 d2 : Int) (td0 td1 td2 : Tok) (ld nd : Nat) (hd0 : 0 ≤ d0 ∧ d0 < 1000000) (hd1 : 0 ≤ d1 ∧ d1 < 1000000) (hd2 : 0 ≤ d2 ∧ d2 < 1000000) (tm : Tok) (t0 t1 t2 t3 : Tok) (ll nl : Nat) (u0 u1 u2 u3 : Tok) (lb nb : Nat) :
    SegAt w mean mg mb s L' 4 (LA s L' (fun m => m (Str.ofString "moves") = some (.int (15 - d0.fmod 12) tm)) (some (.ref ld)) (some (.ref ll)) (some (.ref lb)) none [(lb, listOf [.str (behK d1 0) u0, .str (behK d1 1) u1, .str (behK d1 2) u2, .str (behK d1 3) u3].toArray nb), (ll, listOf [.int (letF d0 0) t0, .int (letF d0 1) t1, .int (letF d0 2) t2, .int (letF d0 3) t3].toArray nl), (ld, listOf [.int d0 td0, .int d1 td1, .int d2 td2].toArray nd)])
      (fun s₂ => ∃ v0 v1 v2 v3 lp np, LA s L' (fun m => m (Str.ofString "moves") = some (.int (15 - d0.fmod 12) tm)) (some (.ref ld)) (some (.ref ll)) (some (.ref lb)) (some (.ref lp)) [(lp, listOf [.str (pieK d0 d1 0) v0, .str (pieK d0 d1 1) v1, .str (pieK d0 d1 2) v2, .str (pieK d0 d1 3) v3].toArray np), (lb, listOf [.str (behK d1 0) u0, .str (behK d1 1) u1, .str (behK d1 2) u2, .str (behK d1 3) u3].toArray nb), (ll, listOf [.int (letF d0 0) t0, .int (letF d0 1) t1, .int (letF d0 2) t2, .int (letF d0 3) t3].toArray nl), (ld, listOf [.int d0 td0, .int d1 td1, .int d2 td2].toArray nd)] s₂) := by
  k_with "LeaveK" => (k_dflt (refine' leaveM ?hM ?hN ?G ?k1 ?k2 ?sub ?_; (case G => assumption); (case hM => assumption); (case hN => assumption); (case k1 => k_asm); (case k2 => k_asm); (case sub => lcg_sub)); intro kF kN kM; (try dsimp only))
  k_with "CompSrcT" => (k_here; k_dflt (first | (refine LCt.CompSrcT.range (n := 4) (by rfl) (by k_asm) (by k_asm) (by assumption) (by first | decide | rfl) (by first | rfl | decide) (by first | size_fits | exact Nat.le_of_ble_eq_true rfl) ?_; intro g') | (refine LCt.CompSrcT.range (n := 3) (by rfl) (by k_asm) (by k_asm) (by assumption) (by first | decide | rfl) (by first | rfl | decide) (by first | size_fits | exact Nat.le_of_ble_eq_true rfl) ?_; intro g') | (refine LCt.CompSrcT.range (n := 2) (by rfl) (by k_asm) (by k_asm) (by assumption) (by first | decide | rfl) (by first | rfl | decide) (by first | size_fits | exact Nat.le_of_ble_eq_true rfl) ?_; intro g') | (refine LCt.CompSrcT.range (n := 1) (by rfl) (by k_asm) (by k_asm) (by assumption) (by first | decide | rfl) (by first | rfl | decide) (by first | size_fits | exact Nat.le_of_ble_eq_true rfl) ?_; intro g') | (refine LCt.CompSrcT.range (n := 0) (by rfl) (by k_asm) (by k_asm) (by assumption) (by first | decide | rfl) (by first | rfl | decide) (by first | size_fits | exact Nat.le_of_ble_eq_true rfl) ?_; intro g')))
  k_with "CompRestT" => (refine stop_out ?_)
  k_with "TurnT" => (refine TurnT.mk (by first | exact fun _ h => h | lcg_sub) ?_ (by first | exact StrIs.mk | exact IntIs.mk (by first | rfl | decide | omega)); (try dsimp only); first | assumption | (with_unfolding_all exact decide_eq_true (by assumption)) | (simp_all; done))
  k_with "TurnF" => (refine TurnF.mk (by first | exact fun _ h => h | lcg_sub) ?_; (try dsimp only); first | assumption | (with_unfolding_all exact decide_eq_false (by assumption)) | (simp_all; done))
  k_with "eval ListComp" => (k_here; (with_reducible show wpAny _ _ (eval (Expr.ListComp _ _ _ _) _) _ _ _); first | (lct_look; lcg_calm; k_dflt (refine LCt.ListComp_T (F₀ := by k_asm) (by with_unfolding_all rfl) (by decide) (by rfl) (by decide) (by rfl) ?_); k_dflt lct_toSrc) | (lcf_look; lcg_calm; k_dflt (refine LCg.ListComp_U (F₀ := by k_asm) (by with_unfolding_all rfl) (by decide) (by rfl) (by decide) (by rfl) ?_); k_dflt lcg_toSrc) | (lcg_look; lcg_calm; k_dflt (refine LCg.ListComp_U (F₀ := by k_asm) (by rfl) (by decide) (by rfl) (by decide) (by rfl) ?_); k_dflt lcg_toSrc))
  k_with "binaryOp Mult ref int" => (k_here; (with_reducible show wpAny _ _ (binaryOp Operator.Mult (Value.ref _) (Value.int _ _)) _ _ _); k_dflt (refine' KMa.mul ?F ?N ?l ?lo ?hi ?z ?e ?_; (case F => k_asm); (case N => k_asm); (case l => is_list); (case lo => first | omega | decide); (case hi => first | omega | decide); (case z => (simp only [List.length_cons, List.length_nil]; decide)); (case e => (simp only [Int.sub_zero, Int.sub_self, Int.reduceSub, Int.reduceToNat, Int.toNat_zero, List.replicate_succ, List.replicate_zero, List.flatten_cons, List.flatten_nil, List.cons_append, List.nil_append, List.append_nil]; first | done | exact rfl)); k_whole); intro D' h' F' N' l1; (try k_lt l1); (try k_sweep))
  k_with "CompRest" => (refine stop_out ?_)
  k_with "CompEnd" => k_dflt (first | (refine LCg.CompEnd.intro (by assumption) (by assumption) _ (fun _ h => h) (by assumption) (by lcg_src) ?_) | (refine LCg.CompEnd.intro (by assumption) (by assumption) _ (fun _ h => List.Mem.tail _ h) (by assumption) (by lcg_src) ?_))
  k_with "TurnV" => (refine TurnV.mk (fun _ h => h) (by first | exact StrIs.mk | exact IntIs.mk (by first | rfl | decide | omega) | rfl))
  k_with "FinE" => ((unfold LCg.FinE); intro D' h' tk' F' N' o1'; (replace o1' := off1H o1'); (try simp only [List.nil_append, List.cons_append] at N'); (try simp only [List.nil_append, List.cons_append] at o1'); (try dsimp only))
  k_with "FinA" => ((unfold LCg.FinA); intro D' h' tk' F' N' o1'; (replace o1' := off1H o1'); (try simp only [List.nil_append, List.cons_append] at N'); (try simp only [List.nil_append, List.cons_append] at o1'); (try dsimp only))
  k_with "subscriptTail Name Name ref int" => (k_here; (with_reducible show wpAny _ _ (subscriptTail _ _ (Value.ref _) (Value.int _ _)) _ _ _); k_dflt (refine' item_led ?N ?m ?a ?b ?x ?_; (case N => k_asm); (case m => k_mem); (case a => decide); (case b => decide); (case x => exact rfl)))
  k_with "subscriptTail Name Constant ref int" => (k_here; (with_reducible show wpAny _ _ (subscriptTail _ _ (Value.ref _) (Value.int _ _)) _ _ _); k_dflt (refine' item_led ?N ?m ?a ?b ?x ?_; (case N => k_asm); (case m => k_mem); (case a => decide); (case b => decide); (case x => exact rfl)))
  k_with "subscriptTail Name BinOp ref int" => (k_here; (with_reducible show wpAny _ _ (subscriptTail _ _ (Value.ref _) (Value.int _ _)) _ _ _); k_dflt (refine' item_led ?N ?m ?a ?b ?x ?_; (case N => k_asm); (case m => k_mem); (case a => decide); (case b => decide); (case x => exact rfl)))
  k_with "eval Name" => (k_here; (with_reducible show wpAny _ _ (eval (Expr.Name _ _) (compEnvC _ _ _ _)) _ _ _); k_dflt (first | (refine' lcf_cell ?N ?c ?m ?d ?_ ?a ?b; (case b => exact rfl); (case a => exact rfl); (case N => k_asm); (case c => exact rfl); (case m => k_mem); (case d => k_asm)) | (refine' LCgL.ld_own ?N ?m ?h ?x ?_ ?a ?b; (case b => exact rfl); (case a => exact rfl); (case N => k_asm); (case x => with_reducible assumption); (case m => k_mem); (case h => with_reducible assumption))))
  k_with "SegE" => (refine stop_out ?_)
  k_with "CompSrc" => (k_here; k_dflt (refine LCg.CompSrc.range (n := 4) (by rfl) (by k_asm) (by k_asm) (by assumption) (by first | decide | rfl) (by first | rfl | decide) (by first | size_fits | exact Nat.le_of_ble_eq_true rfl) ?_; intro g'))
  k_with "call ref" => (k_here; (with_reducible show wpAny _ _ (call (Value.ref 146) _ _) _ _ _); k_dflt (refine' use_ctr (c_pieceI _ _ ?h0 ?h1 _ _ _ ?hb _ ?g0 ?g1 _ _) ?k1 ?k2 ?k3 ?k4 ?k5 ?kK ?kd ?ku ?_; (case k1 => k_asm); (case k2 => k_asm); (case k3 => k_asm); (case k4 => k_asm); (case k5 => k_asm); (case kK => first | exact rfl | assumption); (case kd => ktr_room); (case ku => ktr_units); (case h0 => exact (letF_rng _ _).1); (case h1 => exact (letF_rng _ _).2); (case hb => exact behK_is _ _); (case g0 => exact (fdiv_rng (by omega) (by omega) (by decide)).1); (case g1 => exact (fdiv_rng (by omega) (by omega) (by decide)).2); (intro t9 h9 tk9 F9 N9; (try dsimp only))))
  delta SegAt PG lo; k_fill
  intro X T B'
  refine' cellAt_of ?ho ?_
  case ho => k_is
  intro E
  refine LA.each ?_
  intro h' tk' gens' m' o1 o2 o3 o4 o5 o6 o7 bare hm F' N' e1 e2 e3 e4 e5 e6 e7 off
  dsimp only [nthS]
  replace F' := fr_knownG F' hm
  k_steps
  refine stop_in ?_
  refine restU [StrIs (pieK d0 d1 0), StrIs (pieK d0 d1 1), StrIs (pieK d0 d1 2), StrIs (pieK d0 d1 3)] _ rfl (by lcg_src) ⟨?_, ?_, ?_, ?_, trivial⟩ ?_
  · (intro v' I' oI' C' oC' D' m₂' h' tk' E' ys' hv' hC' hx' F' N' off' ne'; (first | lcg_open hv' | (obtain ⟨t9', hv9'⟩ := hv'; subst hv9')); (try dsimp only); k_steps)
  · (intro v' I' oI' C' oC' D' m₂' h' tk' E' ys' hv' hC' hx' F' N' off' ne'; (first | lcg_open hv' | (obtain ⟨t9', hv9'⟩ := hv'; subst hv9')); (try dsimp only); k_steps)
  · (intro v' I' oI' C' oC' D' m₂' h' tk' E' ys' hv' hC' hx' F' N' off' ne'; (first | lcg_open hv' | (obtain ⟨t9', hv9'⟩ := hv'; subst hv9')); (try dsimp only); k_steps)
  · (intro v' I' oI' C' oC' D' m₂' h' tk' E' ys' hv' hC' hx' F' N' off' ne'; (first | lcg_open hv' | (obtain ⟨t9', hv9'⟩ := hv'; subst hv9')); (try dsimp only); k_steps)
  intro ys9 hys9
  obtain ⟨y0, y1, y2, y3, rfl, ⟨_, rfl⟩, ⟨_, rfl⟩, ⟨_, rfl⟩, ⟨_, rfl⟩⟩ := hys9.four
  k_steps
  all_goals (
    (try refine stop_in ?_)
    (try dsimp only)
    exact ⟨rfl, _, _, _, _, _, _, LA.mk bare (by k_asm) (by rfl) (by k_asm) (by k_mem) (by k_mem) (by k_mem) (by k_mem) (by k_mem) (by k_mem) (by k_mem) (by assumption) (by assumption) (by assumption) (by assumption) (by assumption) (by assumption) (by assumption) (by lcg_sub) (by first | with_reducible assumption | exact off7_sub (by with_reducible assumption) (by lcg_sub) | exact off7_cons (by first | with_reducible assumption | exact off1H_at (by with_reducible assumption) (by k_mem)) (by first | with_reducible assumption | exact off1H_at (by with_reducible assumption) (by k_mem)) (by first | with_reducible assumption | exact off1H_at (by with_reducible assumption) (by k_mem)) (by first | with_reducible assumption | exact off1H_at (by with_reducible assumption) (by k_mem)) (by first | with_reducible assumption | exact off1H_at (by with_reducible assumption) (by k_mem)) (by first | with_reducible assumption | exact off1H_at (by with_reducible assumption) (by k_mem)) (by first | with_reducible assumption | exact off1H_at (by with_reducible assumption) (by k_mem)) (by first | with_reducible assumption | exact off7_sub (by with_reducible assumption) (by lcg_sub) | exact off7_cons (by first | with_reducible assumption | exact off1H_at (by with_reducible assumption) (by k_mem)) (by first | with_reducible assumption | exact off1H_at (by with_reducible assumption) (by k_mem)) (by first | with_reducible assumption | exact off1H_at (by with_reducible assumption) (by k_mem)) (by first | with_reducible assumption | exact off1H_at (by with_reducible assumption) (by k_mem)) (by first | with_reducible assumption | exact off1H_at (by with_reducible assumption) (by k_mem)) (by first | with_reducible assumption | exact off1H_at (by with_reducible assumption) (by k_mem)) (by first | with_reducible assumption | exact off1H_at (by with_reducible assumption) (by k_mem)) (by first | with_reducible assumption | exact off7_sub (by with_reducible assumption) (by lcg_sub) | exact off7_cons (by first | with_reducible assumption | exact off1H_at (by with_reducible assumption) (by k_mem)) (by first | with_reducible assumption | exact off1H_at (by with_reducible assumption) (by k_mem)) (by first | with_reducible assumption | exact off1H_at (by with_reducible assumption) (by k_mem)) (by first | with_reducible assumption | exact off1H_at (by with_reducible assumption) (by k_mem)) (by first | with_reducible assumption | exact off1H_at (by with_reducible assumption) (by k_mem)) (by first | with_reducible assumption | exact off1H_at (by with_reducible assumption) (by k_mem)) (by first | with_reducible assumption | exact off1H_at (by with_reducible assumption) (by k_mem)) (by first | with_reducible assumption | exact off7_sub (by with_reducible assumption) (by lcg_sub) | exact off7_cons (by first | with_reducible assumption | exact off1H_at (by with_reducible assumption) (by k_mem)) (by first | with_reducible assumption | exact off1H_at (by with_reducible assumption) (by k_mem)) (by first | with_reducible assumption | exact off1H_at (by with_reducible assumption) (by k_mem)) (by first | with_reducible assumption | exact off1H_at (by with_reducible assumption) (by k_mem)) (by first | with_reducible assumption | exact off1H_at (by with_reducible assumption) (by k_mem)) (by first | with_reducible assumption | exact off1H_at (by with_reducible assumption) (by k_mem)) (by first | with_reducible assumption | exact off1H_at (by with_reducible assumption) (by k_mem)) (by first | with_reducible assumption | exact off7_sub (by with_reducible assumption) (by lcg_sub) | exact off7_nil)))))⟩)
  k_with_none
end

section
theorem item_strsK5 {prog : Program} {w : World} {A : Around} {E : Value → Shared → Prop} {s : Shared} {value slice : PySem.Expr} {l : Addr} {vs : List Value} {ys : List Str} {k : Int} {u : Tok} {Q : Value → Shared → Prop} (hl : s.heap.IsList l vs.toArray) (hi : PyProof.Rows.StrsAre vs ys)
    (h0 : 0 ≤ k) (h1 : k < ys.length) (hfit : k < 2 ^ 63) (h : ∀ t, Q (.str (ys.getD k.toNat Str.empty) t) s) (hs : subscripted slice false (.ref l) (.int k u) = operate [.ref l, .int k u] (getItem (.ref l) (.int k u))) :
    wpAny (model prog w) A (subscriptTail value slice (.ref l) (.int k u)) Q E s := by
  have hlt : k.toNat < ys.length := by omega
  have e : ys[k.toNat]? = some (ys.getD k.toNat Str.empty) := by simp [List.getD, hlt]
  obtain ⟨t, ht⟩ := hi.at e
  exact tail_any hl.typeIs slot_list_getitem.lookup (wpAny_getItem_list hl h0 hfit (by simpa using ht) (h t)) hs

theorem chr_low {prog : Program} {w : World} {A : Around} {E : Value → Shared → Prop} {s : Shared} {x : Int} {t : Tok} {Q : Value → Shared → Prop} (h0 : 0 ≤ x) (h1 : x < 26) (h : ∀ t' k, Q (.str ⟨#[97 + x.toNat]⟩ t') { s with toks := k }) :
    wpAny (model prog w) A (call (.builtin "chr") [.int (97 + x) t]) Q E s := by
  obtain ⟨n, rfl⟩ := Int.eq_ofNat_of_zero_le h0
  refine chr_nat (c := 97 + n) (by omega) (by omega) fun t' k => ?_
  exact h t' k



set_option maxHeartbeats 0 in
theorem seg5 (w : World) (mean : ExcName → Option Value) (mg mb : Str → Option Value) (s : Shared) (L' : Addr) (d0 d1 d2 : Int) (td0 td1 td2 : Tok) (ld nd : Nat) (hd0 : 0 ≤ d0 ∧ d0 < 1000000) (hd1 : 0 ≤ d1 ∧ d1 < 1000000) (hd2 : 0 ≤ d2 ∧ d2 < 1000000) (tm : Tok) (t0 t1 t2 t3 : Tok) (ll nl : Nat) (u0 u1 u2 u3 : Tok) (lb nb : Nat) (v0 v1 v2 v3 : Tok) (lp np : Nat) :
    SegAt w mean mg mb s L' 5 (LA s L' (fun m => m (Str.ofString "moves") = some (.int (15 - d0.fmod 12) tm)) (some (.ref ld)) (some (.ref ll)) (some (.ref lb)) (some (.ref lp)) [(lp, listOf [.str (pieK d0 d1 0) v0, .str (pieK d0 d1 1) v1, .str (pieK d0 d1 2) v2, .str (pieK d0 d1 3) v3].toArray np), (lb, listOf [.str (behK d1 0) u0, .str (behK d1 1) u1, .str (behK d1 2) u2, .str (behK d1 3) u3].toArray nb), (ll, listOf [.int (letF d0 0) t0, .int (letF d0 1) t1, .int (letF d0 2) t2, .int (letF d0 3) t3].toArray nl), (ld, listOf [.int d0 td0, .int d1 td1, .int d2 td2].toArray nd)])
      (fun s₂ => LD s L' (fun m => m (Str.ofString "moves") = some (.int (15 - d0.fmod 12) tm)) (some (.ref lp)) none none none [(lp, listOf [.str (pieK d0 d1 0) v0, .str (pieK d0 d1 1) v1, .str (pieK d0 d1 2) v2, .str (pieK d0 d1 3) v3].toArray np)] s₂) := by
  k_with "LeaveK" => (k_dflt (refine' leaveM ?hM ?hN ?G ?k1 ?k2 ?sub ?_; (case G => assumption); (case hM => assumption); (case hN => assumption); (case k1 => k_asm); (case k2 => k_asm); (case sub => lcg_sub)); intro kF kN kM; (try dsimp only))
  k_with "CompSrcT" => (k_here; k_dflt (first | (refine LCt.CompSrcT.range (n := 4) (by rfl) (by k_asm) (by k_asm) (by assumption) (by first | decide | rfl) (by first | rfl | decide) (by first | size_fits | exact Nat.le_of_ble_eq_true rfl) ?_; intro g') | (refine LCt.CompSrcT.range (n := 3) (by rfl) (by k_asm) (by k_asm) (by assumption) (by first | decide | rfl) (by first | rfl | decide) (by first | size_fits | exact Nat.le_of_ble_eq_true rfl) ?_; intro g') | (refine LCt.CompSrcT.range (n := 2) (by rfl) (by k_asm) (by k_asm) (by assumption) (by first | decide | rfl) (by first | rfl | decide) (by first | size_fits | exact Nat.le_of_ble_eq_true rfl) ?_; intro g') | (refine LCt.CompSrcT.range (n := 1) (by rfl) (by k_asm) (by k_asm) (by assumption) (by first | decide | rfl) (by first | rfl | decide) (by first | size_fits | exact Nat.le_of_ble_eq_true rfl) ?_; intro g') | (refine LCt.CompSrcT.range (n := 0) (by rfl) (by k_asm) (by k_asm) (by assumption) (by first | decide | rfl) (by first | rfl | decide) (by first | size_fits | exact Nat.le_of_ble_eq_true rfl) ?_; intro g')))
  k_with "CompRestT" => (refine stop_out ?_)
  k_with "TurnT" => (refine TurnT.mk (by first | exact fun _ h => h | lcg_sub) ?_ (by first | exact StrIs.mk | exact IntIs.mk (by first | rfl | decide | omega)); (try dsimp only); first | assumption | (with_unfolding_all exact decide_eq_true (by assumption)) | (simp_all; done))
  k_with "TurnF" => (refine TurnF.mk (by first | exact fun _ h => h | lcg_sub) ?_; (try dsimp only); first | assumption | (with_unfolding_all exact decide_eq_false (by assumption)) | (simp_all; done))
  k_with "eval ListComp" => (k_here; (with_reducible show wpAny _ _ (eval (Expr.ListComp _ _ _ _) _) _ _ _); first | (lct_look; lcg_calm; k_dflt (refine LCt.ListComp_T (F₀ := by k_asm) (by with_unfolding_all rfl) (by decide) (by rfl) (by decide) (by rfl) ?_); k_dflt lct_toSrc) | (lcf_look; lcg_calm; k_dflt (refine LCg.ListComp_U (F₀ := by k_asm) (by with_unfolding_all rfl) (by decide) (by rfl) (by decide) (by rfl) ?_); k_dflt lcg_toSrc) | (lcg_look; lcg_calm; k_dflt (refine LCg.ListComp_U (F₀ := by k_asm) (by rfl) (by decide) (by rfl) (by decide) (by rfl) ?_); k_dflt lcg_toSrc))
  k_with "binaryOp Mult ref int" => (k_here; (with_reducible show wpAny _ _ (binaryOp Operator.Mult (Value.ref _) (Value.int _ _)) _ _ _); k_dflt (refine' KMa.mul ?F ?N ?l ?lo ?hi ?z ?e ?_; (case F => k_asm); (case N => k_asm); (case l => is_list); (case lo => first | omega | decide); (case hi => first | omega | decide); (case z => (simp only [List.length_cons, List.length_nil]; decide)); (case e => (simp only [Int.sub_zero, Int.sub_self, Int.reduceSub, Int.reduceToNat, Int.toNat_zero, List.replicate_succ, List.replicate_zero, List.flatten_cons, List.flatten_nil, List.cons_append, List.nil_append, List.append_nil]; first | done | exact rfl)); k_whole); intro D' h' F' N' l1; (try k_lt l1); (try k_sweep))
  k_with "CompRest" => (refine stop_out ?_)
  k_with "CompEnd" => k_dflt (first | (refine LCg.CompEnd.intro (by assumption) (by assumption) _ (fun _ h => h) (by assumption) (by lcg_src) ?_) | (refine LCg.CompEnd.intro (by assumption) (by assumption) _ (fun _ h => List.Mem.tail _ h) (by assumption) (by lcg_src) ?_))
  k_with "TurnV" => (refine TurnV.mk (fun _ h => h) (by first | exact StrIs.mk | exact IntIs.mk (by first | rfl | decide | omega) | rfl))
  k_with "FinE" => ((unfold LCg.FinE); intro D' h' tk' F' N' o1'; (replace o1' := off1H o1'); (try simp only [List.nil_append, List.cons_append] at N'); (try simp only [List.nil_append, List.cons_append] at o1'); (try dsimp only))
  k_with "FinA" => ((unfold LCg.FinA); intro D' h' tk' F' N' o1'; (replace o1' := off1H o1'); (try simp only [List.nil_append, List.cons_append] at N'); (try simp only [List.nil_append, List.cons_append] at o1'); (try dsimp only))
  k_with "subscriptTail Name Name ref int" => (k_here; (with_reducible show wpAny _ _ (subscriptTail _ _ (Value.ref _) (Value.int _ _)) _ _ _); k_dflt (refine' item_led ?N ?m ?a ?b ?x ?_; (case N => k_asm); (case m => k_mem); (case a => decide); (case b => decide); (case x => exact rfl)))
  k_with "subscriptTail Name Constant ref int" => (k_here; (with_reducible show wpAny _ _ (subscriptTail _ _ (Value.ref _) (Value.int _ _)) _ _ _); k_dflt (refine' item_led ?N ?m ?a ?b ?x ?_; (case N => k_asm); (case m => k_mem); (case a => decide); (case b => decide); (case x => exact rfl)))
  k_with "subscriptTail Name BinOp ref int" => (k_here; (with_reducible show wpAny _ _ (subscriptTail _ _ (Value.ref _) (Value.int _ _)) _ _ _); k_dflt (refine' item_led ?N ?m ?a ?b ?x ?_; (case N => k_asm); (case m => k_mem); (case a => decide); (case b => decide); (case x => exact rfl)))
  k_with "eval Name" => (k_here; (with_reducible show wpAny _ _ (eval (Expr.Name _ _) (compEnvC _ _ _ _)) _ _ _); k_dflt (first | (refine' lcf_cell ?N ?c ?m ?d ?_ ?a ?b; (case b => exact rfl); (case a => exact rfl); (case N => k_asm); (case c => exact rfl); (case m => k_mem); (case d => k_asm)) | (refine' LCgL.ld_own ?N ?m ?h ?x ?_ ?a ?b; (case b => exact rfl); (case a => exact rfl); (case N => k_asm); (case x => with_reducible assumption); (case m => k_mem); (case h => with_reducible assumption))))
  k_with "SegE" => (refine stop_out ?_)
  k_with "CompSrc" => (k_here; k_dflt (refine LCg.CompSrc.range (n := 4) (by rfl) (by k_asm) (by k_asm) (by assumption) (by first | decide | rfl) (by first | rfl | decide) (by first | size_fits | exact Nat.le_of_ble_eq_true rfl) ?_; intro g'))
  k_with "subscriptTail" => (k_here; (with_reducible show wpAny _ _ (subscriptTail _ _ (Value.ref _) (Value.int _ _)) _ _ _); k_dflt (refine' item_strsK5 (ys := beh3) ?l ?i ?a ?b ?c ?_ ?hs; (case l => is_list); (case i => exact .cons _ _ (.cons _ _ (.cons _ _ .nil))); (case a => exact fmod_lo _ (by decide)); (case b => exact Int.lt_of_lt_of_le (fmod_hi _ (by decide)) (by decide)); (case c => exact Int.lt_of_lt_of_le (fmod_hi _ (by decide)) (by decide)); (case hs => with_unfolding_all rfl)); intro t9)
  k_with "call builtin:chr" => (k_here; (with_reducible show wpAny _ _ (call (Value.builtin "chr") [Value.int _ _]) _ _ _); k_dflt (refine chr_low (fmod_lo _ (by decide)) (fmod_hi _ (by decide)) ?_); intro t9 k9)
  k_with "subscriptTail" => (k_here; (with_reducible show wpAny _ _ (subscriptTail _ _ (Value.ref _) (Value.int _ _)) _ _ _); k_dflt (refine' item_led ?N ?m ?a ?b ?x ?_; (case N => k_asm); (case m => k_mem); (case a => decide); (case b => decide); (case x => exact rfl)))
  k_with "binaryOp Add str str" => (k_here; (with_reducible show wpAny _ _ (binaryOp Operator.Add (Value.str _ _) (Value.str _ _)) _ _ _); refine add_strF (by exact (by decide : 1 < 100)) (behK_lt _ _) ?_; intro t9 k9)
  k_with "compareOp NotEq ref ref" => (refine stop_out ?_)
  delta SegAt PG lo; k_fill
  intro X T B'
  refine' cellAt_of ?ho ?_
  case ho => k_is
  intro E
  refine LA.each ?_
  intro h' tk' gens' m' o1 o2 o3 o4 o5 o6 o7 bare hm F' N' e1 e2 e3 e4 e5 e6 e7 off
  dsimp only [nthS]
  replace F' := fr_knownG F' hm
  k_steps
  refine stop_in ?_
  refine restU [StrIs (pieK d0 d1 0), StrIs (pieK d0 d1 1), StrIs (pieK d0 d1 2), StrIs (pieK d0 d1 3)] _ rfl (by lcg_src) ⟨?_, ?_, ?_, ?_, trivial⟩ ?_
  · (intro v' I' oI' C' oC' D' m₂' h' tk' E' ys' hv' hC' hx' F' N' off' ne'; (first | lcg_open hv' | (obtain ⟨t9', hv9'⟩ := hv'; subst hv9')); (try dsimp only); k_steps)
  · (intro v' I' oI' C' oC' D' m₂' h' tk' E' ys' hv' hC' hx' F' N' off' ne'; (first | lcg_open hv' | (obtain ⟨t9', hv9'⟩ := hv'; subst hv9')); (try dsimp only); k_steps)
  · (intro v' I' oI' C' oC' D' m₂' h' tk' E' ys' hv' hC' hx' F' N' off' ne'; (first | lcg_open hv' | (obtain ⟨t9', hv9'⟩ := hv'; subst hv9')); (try dsimp only); k_steps)
  · (intro v' I' oI' C' oC' D' m₂' h' tk' E' ys' hv' hC' hx' F' N' off' ne'; (first | lcg_open hv' | (obtain ⟨t9', hv9'⟩ := hv'; subst hv9')); (try dsimp only); k_steps)
  intro ys9 hys9
  obtain ⟨y0, y1, y2, y3, rfl, ⟨_, rfl⟩, ⟨_, rfl⟩, ⟨_, rfl⟩, ⟨_, rfl⟩⟩ := hys9.four
  k_steps
  refine stop_in ?_
  refine ne_strs (ns := [pieK d0 d1 0, pieK d0 d1 1, pieK d0 d1 2, pieK d0 d1 3]) (by is_list) (by is_list) (.cons _ _ (.cons _ _ (.cons _ _ (.cons _ _ .nil)))) (.cons _ _ (.cons _ _ (.cons _ _ (.cons _ _ .nil)))) (fun x hx => by simp only [List.mem_cons, List.not_mem_nil, or_false] at hx; rcases hx with rfl | rfl | rfl | rfl <;> exact pieK_ok _ _ _) (by first | ktr_units | decide +kernel) ?_
  k_steps
  all_goals (
    (try refine stop_in ?_)
    (try dsimp only)
    exact ⟨rfl, LD.mk bare (by k_asm) (by rfl) (by k_asm) (by k_mem) (by k_mem) (by k_mem) (by k_mem) (by assumption) (by assumption) (by assumption) (by assumption) (by lcg_sub) (by repeat' (first | with_reducible assumption | exact off4_sub (by with_reducible assumption) (by lcg_sub) | exact off7_sub4 (by with_reducible assumption) (by lcg_sub) | exact off4_nil | refine off4_consO (by with_reducible assumption) (by k_mem) ?_ | refine off4_cons (by first | with_reducible assumption | exact off1H_at (by with_reducible assumption) (by k_mem)) (by first | with_reducible assumption | exact off1H_at (by with_reducible assumption) (by k_mem)) (by first | with_reducible assumption | exact off1H_at (by with_reducible assumption) (by k_mem)) (by first | with_reducible assumption | exact off1H_at (by with_reducible assumption) (by k_mem)) ?_))⟩)
  k_with_none
end

section
open PySem.Spec PySem.Calls
/-- a range's iterator: at x, so many left -/
noncomputable def riO (x left c : Int) : Obj := { cls := .type "range_iterator", data := .fields #[rawInt x, rawInt left, rawInt c] }
section
variable {prog : Program} {w : World} {A : Around} {s : Shared} {L' IT : Addr} {c4 c5 c6 c7 : Option Value} {ls : List (Addr × Obj)} {s₁ : Shared} {fm : (Str → Option Value) → Prop}
theorem LD.move {gm : (Str → Option Value) → Prop} {o o' : Obj} {h' : Heap} {k : Nat} (h : LD s L' fm c4 c5 c6 c7 ((IT, o) :: ls) s₁) (hls : ∀ p ∈ ls, p.1 ≠ IT) (hs : ∀ b o, b ≠ IT → s₁.heap.get? b = some o → h'.get? b = some o) (ho : h'.get? IT = some o') :
    LD s L' fm c4 c5 c6 c7 ((IT, o') :: ls) { s₁ with heap := h', toks := k } := by
  obtain ⟨h, tk, gens, m, o4, o5, o6, o7, rfl, bare, hm, F, N, e4, e5, e6, e7, off⟩ := h
  replace hs : ∀ b o, b ≠ IT → h.get? b = some o → h'.get? b = some o := hs
  obtain ⟨q4, q5, q6, q7⟩ := off _ (.head _)
  have nIT := N (IT, o) (by simp)
  have F' : Fr s.heap L' h' m := ⟨F.ns.at fun o x => hs _ o (fun e => nIT.2.1 e.symm) x, fun b o e => hs b o (fun q => by rw [q] at e; rw [nIT.2.2] at e; cases e) (F.keep b o e), F.above⟩
  refine ⟨h', k, gens, m, o4, o5, o6, o7, rfl, bare, hm, F', fun p hp => ?_, e4, e5, e6, e7, fun p hp => ?_⟩
  · have go : ∀ {q : Addr × Obj}, q ∈ [(L' + 1 + 1 + 1 + 1, o4), (L' + 1 + 1 + 1 + 1 + 1, o5), (L' + 1 + 1 + 1 + 1 + 1 + 1, o6), (L' + 1 + 1 + 1 + 1 + 1 + 1 + 1, o7)] ++ (IT, o) :: ls → q.1 ≠ IT → h'.get? q.1 = some q.2 ∧ q.1 ≠ L' ∧ s.heap.get? q.1 = none := fun hq hne => ⟨hs _ _ hne (N _ hq).1, (N _ hq).2⟩
    rcases List.mem_append.mp hp with hp | hp
    · refine go (List.mem_append_left _ hp) ?_
      simp only [List.mem_cons, List.not_mem_nil, or_false] at hp
      rcases hp with rfl | rfl | rfl | rfl
      · exact q4
      · exact q5
      · exact q6
      · exact q7
    · rcases List.mem_cons.mp hp with rfl | hp
      · exact ⟨ho, nIT.2⟩
      · exact go (List.mem_append_right _ (.tail _ hp)) (hls p hp)
  · rcases List.mem_cons.mp hp with rfl | hp
    · exact off (IT, o) (.head _)
    · exact off p (.tail _ hp)
theorem LD.drop {p : Addr × Obj} (h : LD s L' fm c4 c5 c6 c7 (p :: ls) s₁) : LD s L' fm c4 c5 c6 c7 ls s₁ := by
  obtain ⟨h, tk, gens, m, o4, o5, o6, o7, rfl, bare, hm, F, N, e4, e5, e6, e7, off⟩ := h
  exact LD.mk bare F hm N (by simp) (by simp) (by simp) (by simp) e4 e5 e6 e7 (fun p hp => List.mem_append_right _ (.tail _ hp)) fun p hp => off p (.tail _ hp)
theorem LD.weak {gm : (Str → Option Value) → Prop} (h : LD s L' fm c4 c5 c6 c7 ls s₁) (g : ∀ m, fm m → gm m) : LD s L' gm c4 c5 c6 c7 ls s₁ := by
  obtain ⟨h, tk, gens, m, o4, o5, o6, o7, rfl, bare, hm, r⟩ := h
  exact ⟨h, tk, gens, m, o4, o5, o6, o7, rfl, bare, g m hm, r⟩
theorem LD.ofIter {h : Heap} {gens : Array GenState} {tk : Nat} {m : Str → Option Value} {o4 o5 o6 o7 : Obj} {a c : Int} {n : Int} (bare : AllBare s.gens → AllBare gens) (F : Fr s.heap L' h m) (hm : fm m)
    (N : News s.heap L' h ([(L' + 1 + 1 + 1 + 1, o4), (L' + 1 + 1 + 1 + 1 + 1, o5), (L' + 1 + 1 + 1 + 1 + 1 + 1, o6), (L' + 1 + 1 + 1 + 1 + 1 + 1 + 1, o7)] ++ ls))
    (e4 : o4.data = Data.cell c4) (e5 : o5.data = Data.cell c5) (e6 : o6.data = Data.cell c6) (e7 : o7.data = Data.cell c7) (off : Off4 L' ls) :
    LD s L' fm c4 c5 c6 c7 ((h.objs.size, riO a n c) :: ls) { s with heap := h.push (riO a n c), gens := gens, toks := tk } ∧ ∀ p ∈ ls, p.1 ≠ h.objs.size := by
  have lt : ∀ p, p ∈ [(L' + 1 + 1 + 1 + 1, o4), (L' + 1 + 1 + 1 + 1 + 1, o5), (L' + 1 + 1 + 1 + 1 + 1 + 1, o6), (L' + 1 + 1 + 1 + 1 + 1 + 1 + 1, o7)] ++ ls → p.1 ≠ h.objs.size := fun p hp => Nat.ne_of_lt (Heap.lt_size (N p hp).1)
  refine ⟨⟨_, tk, gens, m, o4, o5, o6, o7, rfl, bare, hm, F.push _, fun p hp => ?_, e4, e5, e6, e7, fun p hp => ?_⟩, fun p hp => lt p (List.mem_append_right _ hp)⟩
  · have go : ∀ {q : Addr × Obj}, q ∈ [(L' + 1 + 1 + 1 + 1, o4), (L' + 1 + 1 + 1 + 1 + 1, o5), (L' + 1 + 1 + 1 + 1 + 1 + 1, o6), (L' + 1 + 1 + 1 + 1 + 1 + 1 + 1, o7)] ++ ls → (h.push (riO a n c)).get? q.1 = some q.2 ∧ q.1 ≠ L' ∧ s.heap.get? q.1 = none := fun hq => ⟨Heap.get?_push_of_some _ (N _ hq).1, (N _ hq).2⟩
    rcases List.mem_append.mp hp with hp | hp
    · exact go (List.mem_append_left _ hp)
    · rcases List.mem_cons.mp hp with rfl | hp
      · refine ⟨Heap.get?_push_size _ rfl, Nat.ne_of_gt F.ns.lt, Heap.get?_none_of_le (Nat.le_trans F.above (Nat.le_of_lt F.ns.lt))⟩
      · exact go (List.mem_append_right _ hp)
  · rcases List.mem_cons.mp hp with rfl | hp
    · exact ⟨lt (_, o4) (by simp), lt (_, o5) (by simp), lt (_, o6) (by simp), lt (_, o7) (by simp)⟩
    · exact off p hp
/-- a for-loop over a range in the law's frame, whose turns only end -/
theorem mem_skip5 {α : Type} {a b c d e p : α} {l : List α} (h : p ∈ a :: b :: c :: d :: l) : p ∈ a :: b :: c :: d :: e :: l := by
  rcases List.mem_cons.mp h with rfl | h
  · exact .head _
  · rcases List.mem_cons.mp h with rfl | h
    · exact .tail _ (.head _)
    · rcases List.mem_cons.mp h with rfl | h
      · exact .tail _ (.tail _ (.head _))
      · rcases List.mem_cons.mp h with rfl | h
        · exact .tail _ (.tail _ (.tail _ (.head _)))
        · exact .tail _ (.tail _ (.tail _ (.tail _ (.tail _ h))))
theorem for_rangeD {R : Result → Shared → Prop} {x : Str} {px : Pos} {body : List Stmt} {env : Env} {a c : Int} {n : Nat} {D : Type} (P : Nat → D → Prop) (k5 k6 k7 : D → Option Value) (kl : D → List (Addr × Obj)) (hL : env.locals = L') (hh : A.handled = none)
    (hx : env.kindOf x = some .local) (hp : (env.scope.kind == .class || (env.scope.kind == .module && env.locals != env.globals)) = false)
    (hfm : ∀ m v, fm m → fm (fun y => if y = x then some v else m y))
    (d₀ : D) (h0 : P 0 d₀) (hi : LD s L' fm c4 (k5 d₀) (k6 d₀) (k7 d₀) ((IT, riO a n c) :: kl d₀) s₁) (hl0 : ∀ p ∈ kl d₀, p.1 ≠ IT)
    (turn : ∀ i d t oI s₂, i < n → P i d → (∀ p ∈ kl d, p.1 ≠ IT) → LD s L' (fun m => m x = some (.int (a + (i : Int) * c) t) ∧ fm m) c4 (k5 d) (k6 d) (k7 d) ((IT, oI) :: kl d) s₂ →
      wpAny (model prog w) A (execs body env) (SegE fun s₃ => ∃ d', P (i + 1) d' ∧ (∀ p ∈ kl d', p.1 ≠ IT) ∧ LD s L' fm c4 (k5 d') (k6 d') (k7 d') ((IT, oI) :: kl d') s₃) (notedBy (model prog w) A env fun e s' => R (.error e) s') s₂)
    (done : ∀ d s₂, P n d → LD s L' fm c4 (k5 d) (k6 d) (k7 d) (kl d) s₂ → R (.ok .next) s₂) :
    codeAny (model prog w) A (.forLoop (.Name x px) (.ref IT) body [] env) R s₁ := by
  subst hL
  refine codeAny_forLoop
    (fun k s' => ∃ i d, P i d ∧ (∀ p ∈ kl d, p.1 ≠ IT) ∧ LD s env.locals fm c4 (k5 d) (k6 d) (k7 d) ((IT, riO (a + (i : Int) * c) ((n : Int) - (i : Int)) c) :: kl d) s' ∧ i ≤ n ∧ k = n + 1 - i) ?_ (n + 1)
    ⟨0, d₀, h0, hl0, by simpa using hi, Nat.zero_le _, rfl⟩
  rintro k s' ⟨i, d, hP, hls, hD, hi, rfl⟩
  have hit : IsRangeIter s'.heap IT (a + (i : Int) * c) ((n : Int) - (i : Int)) c := by
    exact LD.each (P := fun z => IsRangeIter z.heap IT (a + (i : Int) * c) ((n : Int) - (i : Int)) c) (fun _ _ _ _ _ _ _ _ _ _ _ N _ _ _ _ _ => (N _ (.tail _ (.tail _ (.tail _ (.tail _ (.head _)))))).1) s' hD
  by_cases hlt : i < n
  · refine wpAny_pyNext_range_item hit (by omega) fun h₁ hit₁ hs₁ => ?_
    have hD₁ := LD.move (gm := fm) (k := s'.toks + 1) hD hls (fun b o hb e => hs₁.extBut b o hb e) hit₁
    refine LD.each (P := fun z => wpAny (model prog w) A _ _ _ z) ?_ _ hD₁
    intro h tk gens m o4 o5 o6 o7 bare hm F N e4 e5 e6 e7 off
    refine wpAny_assign_Name (wpAny_storeName_local hx F.ns (fun h₂ hn₂ hs₂ => ?_) hp)
    have F₂ := F.set hn₂ hs₂
    refine wpAny_mono (turn i d s'.toks _ _ hlt hP hls ⟨h₂, _, gens, _, o4, o5, o6, o7, rfl, bare, ⟨by rw [if_pos rfl], hfm _ _ hm⟩, F₂, N.set hs₂, e4, e5, e6, e7, off⟩) (fun f s₃ h₃ => ?_) fun _ _ e => e
    obtain ⟨rfl, d', hP', hls', hD'⟩ := h₃
    refine ⟨n + 1 - (i + 1), by omega, i + 1, d', hP', hls', ?_, hlt, rfl⟩
    have e1 : a + ((i + 1 : Nat) : Int) * c = a + (i : Int) * c + c := by push_cast; rw [Int.add_mul, Int.one_mul, Int.add_assoc]
    have e2 : (n : Int) - ((i + 1 : Nat) : Int) = (n : Int) - (i : Int) - 1 := by push_cast; omega
    rw [e1, e2]
    exact hD'
  · have hin : i = n := by omega
    subst hin
    have hLI : env.locals ≠ IT := by
      exact LD.each (P := fun _ => env.locals ≠ IT) (fun _ _ _ _ _ _ _ _ _ _ _ N _ _ _ _ _ e => (N _ (.tail _ (.tail _ (.tail _ (.tail _ (.head _)))))).2.1 e.symm) s' hD
    refine wpAny_pyNext_range_end hh hit (by omega) fun h₁ he₁ => wpAny_execs_nil ?_
    refine done d _ hP ?_
    refine LD.each (P := fun z => (∀ b o, b ≠ IT → z.heap.get? b = some o → h₁.get? b = some o) → LD s env.locals fm c4 (k5 d) (k6 d) (k7 d) (kl d) { z with heap := h₁ }) ?_ s' hD he₁
    intro h tk gens m o4 o5 o6 o7 bare hm F N e4 e5 e6 e7 off he₁
    have q := off _ (.head _)
    have hIT := N (IT, riO _ _ _) (.tail _ (.tail _ (.tail _ (.tail _ (.head _)))))
    have F₁ : Fr s.heap env.locals h₁ m := ⟨F.ns.at fun o x => he₁ _ o hLI x, fun b o e => he₁ b o (fun q => by rw [q, hIT.2.2] at e; cases e) (F.keep b o e), F.above⟩
    have N₁ : News s.heap env.locals h₁ ((env.locals + 1 + 1 + 1 + 1, o4) :: (env.locals + 1 + 1 + 1 + 1 + 1, o5) :: (env.locals + 1 + 1 + 1 + 1 + 1 + 1, o6) :: (env.locals + 1 + 1 + 1 + 1 + 1 + 1 + 1, o7) :: kl d) := fun p hp => by
      refine ⟨he₁ _ _ ?_ (N p ?_).1, (N p ?_).2⟩
      · rcases List.mem_cons.mp hp with rfl | hp
        · exact q.1
        · rcases List.mem_cons.mp hp with rfl | hp
          · exact q.2.1
          · rcases List.mem_cons.mp hp with rfl | hp
            · exact q.2.2.1
            · rcases List.mem_cons.mp hp with rfl | hp
              · exact q.2.2.2
              · exact hls p hp
      · exact mem_skip5 hp
      · exact mem_skip5 hp
    exact ⟨h₁, tk, gens, m, o4, o5, o6, o7, rfl, bare, hm, F₁, N₁, e4, e5, e6, e7, fun p hp => off p (.tail _ hp)⟩
end
end
section
open PySem.Spec PySem.Calls
noncomputable def forBody : Stmt → List Stmt
  | .For _ _ b _ _ => b
  | _ => []
/-- a statement of the last loop's body -/
noncomputable abbrev SegBd (w : World) (mean : ExcName → Option Value) (mg mb : Str → Option Value) (s : Shared) (L' : Addr) (i : Nat) (Pre Post : Shared → Prop) : Prop :=
  (KF w.params).In s.heap → Top VW (looseW VW lo) mean mg mb s.heap → Below callerA s.heap [] s.heap →
    CellAt (fun body env => ∀ E s₁, Pre s₁ → wpAny (model PG w) (callerA.deeper env) (exec (nthS (forBody (nthS body 10)) i) env) (SegE Post) E s₁) (KF w.params) 178 L'
end

section
set_option maxHeartbeats 0 in
theorem seg6 (w : World) (mean : ExcName → Option Value) (mg mb : Str → Option Value) (s : Shared) (L' : Addr) (x : Int) (h0 : 0 ≤ x) (h1 : x < 16) (tm : Tok) (p0 p1 p2 p3 : Str) (v0 v1 v2 v3 : Tok) (lp np : Nat) (hp0 : p0.length < 10) (hp1 : p1.length < 10) (hp2 : p2.length < 10) (hp3 : p3.length < 10) :
    SegAt w mean mg mb s L' 6 (LD s L' (fun m => m (Str.ofString "moves") = some (.int x tm)) (some (.ref lp)) none none none [(lp, listOf [.str p0 v0, .str p1 v1, .str p2 v2, .str p3 v3].toArray np)])
      (fun s₂ => ∃ lr nr, LD s L' (fun m => m (Str.ofString "moves") = some (.int x tm)) (some (.ref lp)) (some (.ref lr)) none none [(lr, listOf [.bool (ring0 x), .bool (ring1 x), .bool (ring2 x), .bool (ring3 x)].toArray nr), (lp, listOf [.str p0 v0, .str p1 v1, .str p2 v2, .str p3 v3].toArray np)] s₂) := by
  k_with "LeaveK" => (k_dflt (refine' leaveM ?hM ?hN ?G ?k1 ?k2 ?sub ?_; (case G => assumption); (case hM => assumption); (case hN => assumption); (case k1 => k_asm); (case k2 => k_asm); (case sub => lcg_sub)); intro kF kN kM; (try dsimp only))
  k_with "CompSrcT" => (k_here; k_dflt (first | (refine LCt.CompSrcT.range (n := 4) (by rfl) (by k_asm) (by k_asm) (by assumption) (by first | decide | rfl) (by first | rfl | decide) (by first | size_fits | exact Nat.le_of_ble_eq_true rfl) ?_; intro g') | (refine LCt.CompSrcT.range (n := 3) (by rfl) (by k_asm) (by k_asm) (by assumption) (by first | decide | rfl) (by first | rfl | decide) (by first | size_fits | exact Nat.le_of_ble_eq_true rfl) ?_; intro g') | (refine LCt.CompSrcT.range (n := 2) (by rfl) (by k_asm) (by k_asm) (by assumption) (by first | decide | rfl) (by first | rfl | decide) (by first | size_fits | exact Nat.le_of_ble_eq_true rfl) ?_; intro g') | (refine LCt.CompSrcT.range (n := 1) (by rfl) (by k_asm) (by k_asm) (by assumption) (by first | decide | rfl) (by first | rfl | decide) (by first | size_fits | exact Nat.le_of_ble_eq_true rfl) ?_; intro g') | (refine LCt.CompSrcT.range (n := 0) (by rfl) (by k_asm) (by k_asm) (by assumption) (by first | decide | rfl) (by first | rfl | decide) (by first | size_fits | exact Nat.le_of_ble_eq_true rfl) ?_; intro g')))
  k_with "CompRestT" => (refine stop_out ?_)
  k_with "TurnT" => (refine TurnT.mk (by first | exact fun _ h => h | lcg_sub) ?_ (by first | exact StrIs.mk | exact IntIs.mk (by first | rfl | decide | omega)); (try dsimp only); first | assumption | (with_unfolding_all exact decide_eq_true (by assumption)) | (simp_all; done))
  k_with "TurnF" => (refine TurnF.mk (by first | exact fun _ h => h | lcg_sub) ?_; (try dsimp only); first | assumption | (with_unfolding_all exact decide_eq_false (by assumption)) | (simp_all; done))
  k_with "eval ListComp" => (k_here; (with_reducible show wpAny _ _ (eval (Expr.ListComp _ _ _ _) _) _ _ _); first | (lct_look; lcg_calm; k_dflt (refine LCt.ListComp_T (F₀ := by k_asm) (by with_unfolding_all rfl) (by decide) (by rfl) (by decide) (by rfl) ?_); k_dflt lct_toSrc) | (lcf_look; lcg_calm; k_dflt (refine LCg.ListComp_U (F₀ := by k_asm) (by with_unfolding_all rfl) (by decide) (by rfl) (by decide) (by rfl) ?_); k_dflt lcg_toSrc) | (lcg_look; lcg_calm; k_dflt (refine LCg.ListComp_U (F₀ := by k_asm) (by rfl) (by decide) (by rfl) (by decide) (by rfl) ?_); k_dflt lcg_toSrc))
  k_with "binaryOp Mult ref int" => (k_here; (with_reducible show wpAny _ _ (binaryOp Operator.Mult (Value.ref _) (Value.int _ _)) _ _ _); k_dflt (refine' KMa.mul ?F ?N ?l ?lo ?hi ?z ?e ?_; (case F => k_asm); (case N => k_asm); (case l => is_list); (case lo => first | omega | decide); (case hi => first | omega | decide); (case z => (simp only [List.length_cons, List.length_nil]; decide)); (case e => (simp only [Int.sub_zero, Int.sub_self, Int.reduceSub, Int.reduceToNat, Int.toNat_zero, List.replicate_succ, List.replicate_zero, List.flatten_cons, List.flatten_nil, List.cons_append, List.nil_append, List.append_nil]; first | done | exact rfl)); k_whole); intro D' h' F' N' l1; (try k_lt l1); (try k_sweep))
  k_with "CompRest" => (refine stop_out ?_)
  k_with "CompEnd" => k_dflt (first | (refine LCg.CompEnd.intro (by assumption) (by assumption) _ (fun _ h => h) (by assumption) (by lcg_src) ?_) | (refine LCg.CompEnd.intro (by assumption) (by assumption) _ (fun _ h => List.Mem.tail _ h) (by assumption) (by lcg_src) ?_))
  k_with "TurnV" => (refine TurnV.mk (fun _ h => h) (by first | exact StrIs.mk | exact IntIs.mk (by first | rfl | decide | omega) | rfl))
  k_with "FinE" => ((unfold LCg.FinE); intro D' h' tk' F' N' o1'; (replace o1' := off1H o1'); (try simp only [List.nil_append, List.cons_append] at N'); (try simp only [List.nil_append, List.cons_append] at o1'); (try dsimp only))
  k_with "FinA" => ((unfold LCg.FinA); intro D' h' tk' F' N' o1'; (replace o1' := off1H o1'); (try simp only [List.nil_append, List.cons_append] at N'); (try simp only [List.nil_append, List.cons_append] at o1'); (try dsimp only))
  k_with "subscriptTail Name Name ref int" => (k_here; (with_reducible show wpAny _ _ (subscriptTail _ _ (Value.ref _) (Value.int _ _)) _ _ _); k_dflt (refine' item_led ?N ?m ?a ?b ?x ?_; (case N => k_asm); (case m => k_mem); (case a => decide); (case b => decide); (case x => exact rfl)))
  k_with "subscriptTail Name Constant ref int" => (k_here; (with_reducible show wpAny _ _ (subscriptTail _ _ (Value.ref _) (Value.int _ _)) _ _ _); k_dflt (refine' item_led ?N ?m ?a ?b ?x ?_; (case N => k_asm); (case m => k_mem); (case a => decide); (case b => decide); (case x => exact rfl)))
  k_with "subscriptTail Name BinOp ref int" => (k_here; (with_reducible show wpAny _ _ (subscriptTail _ _ (Value.ref _) (Value.int _ _)) _ _ _); k_dflt (refine' item_led ?N ?m ?a ?b ?x ?_; (case N => k_asm); (case m => k_mem); (case a => decide); (case b => decide); (case x => exact rfl)))
  k_with "eval Name" => (k_here; (with_reducible show wpAny _ _ (eval (Expr.Name _ _) (compEnvC _ _ _ _)) _ _ _); k_dflt (first | (refine' lcf_cell ?N ?c ?m ?d ?_ ?a ?b; (case b => exact rfl); (case a => exact rfl); (case N => k_asm); (case c => exact rfl); (case m => k_mem); (case d => k_asm)) | (refine' LCgL.ld_own ?N ?m ?h ?x ?_ ?a ?b; (case b => exact rfl); (case a => exact rfl); (case N => k_asm); (case x => with_reducible assumption); (case m => k_mem); (case h => with_reducible assumption))))
  k_with "SegE" => (refine stop_out ?_)
  k_with "CompSrc" => (k_here; k_dflt (refine LCg.CompSrc.range (n := 4) (by rfl) (by k_asm) (by k_asm) (by assumption) (by first | decide | rfl) (by first | rfl | decide) (by first | size_fits | exact Nat.le_of_ble_eq_true rfl) ?_; intro g'))
  k_with "call ref" => (k_here; (with_reducible show wpAny _ _ (call (Value.ref 141) _ _) _ _ _); k_dflt (refine' use_ctr (c_folded _ _ ?h0 ?h1 _ _) ?k1 ?k2 ?k3 ?k4 ?k5 ?kK ?kd ?ku ?_; (case k1 => k_asm); (case k2 => k_asm); (case k3 => k_asm); (case k4 => k_asm); (case k5 => k_asm); (case kK => first | exact rfl | assumption); (case kd => first | ktr_room | decide +kernel); (case ku => first | ktr_units | decide +kernel); (case h0 => assumption); (case h1 => assumption); (intro l9 n9 h9 tk9 F9 N9 o9; (replace o9 := off1H_of o9); (try dsimp only))))
  delta SegAt PG lo; k_fill
  intro X T B'
  refine' cellAt_of ?ho ?_
  case ho => k_is
  intro E
  refine LD.each ?_
  intro h' tk' gens' m' o4 o5 o6 o7 bare hm F' N' e4 e5 e6 e7 off
  dsimp only [nthS]
  replace F' := fr_knownG F' hm
  k_steps
  all_goals (
    (try refine stop_in ?_)
    (try dsimp only)
    exact ⟨rfl, _, _, LD.mk bare (by k_asm) (by rfl) (by k_asm) (by k_mem) (by k_mem) (by k_mem) (by k_mem) (by assumption) (by assumption) (by assumption) (by assumption) (by lcg_sub) (by repeat' (first | with_reducible assumption | exact off4_sub (by with_reducible assumption) (by lcg_sub) | exact off7_sub4 (by with_reducible assumption) (by lcg_sub) | exact off4_nil | refine off4_consO (by with_reducible assumption) (by k_mem) ?_ | refine off4_cons (by first | with_reducible assumption | exact off1H_at (by with_reducible assumption) (by k_mem)) (by first | with_reducible assumption | exact off1H_at (by with_reducible assumption) (by k_mem)) (by first | with_reducible assumption | exact off1H_at (by with_reducible assumption) (by k_mem)) (by first | with_reducible assumption | exact off1H_at (by with_reducible assumption) (by k_mem)) ?_))⟩)
  k_with_none
end

section
noncomputable def isF (y : Value) : Bool := match y with | .bool b => b == false | _ => false
theorem isF_none : ([Value.bool true, .bool true, .bool true, .bool true].toArray).any isF = false := by simp [isF]
set_option maxHeartbeats 0 in
theorem seg7 (w : World) (mean : ExcName → Option Value) (mg mb : Str → Option Value) (s : Shared) (L' : Addr) (x : Int) (tm : Tok) (p0 p1 p2 p3 : Str) (v0 v1 v2 v3 : Tok) (lp np : Nat) (hp0 : p0.length < 10) (hp1 : p1.length < 10) (hp2 : p2.length < 10) (hp3 : p3.length < 10) (b0 b1 b2 b3 : Bool) (lr nr : Nat) :
    SegAt w mean mg mb s L' 7 (LD s L' (fun m => m (Str.ofString "moves") = some (.int x tm)) (some (.ref lp)) (some (.ref lr)) none none [(lr, listOf [.bool b0, .bool b1, .bool b2, .bool b3].toArray nr), (lp, listOf [.str p0 v0, .str p1 v1, .str p2 v2, .str p3 v3].toArray np)])
      (fun s₂ => LD s L' (fun m => m (Str.ofString "moves") = some (.int x tm)) (some (.ref lp)) (some (.ref lr)) none none [(lr, listOf [.bool b0, .bool b1, .bool b2, .bool b3].toArray nr), (lp, listOf [.str p0 v0, .str p1 v1, .str p2 v2, .str p3 v3].toArray np)] s₂) := by
  k_with "LeaveK" => (k_dflt (refine' leaveM ?hM ?hN ?G ?k1 ?k2 ?sub ?_; (case G => assumption); (case hM => assumption); (case hN => assumption); (case k1 => k_asm); (case k2 => k_asm); (case sub => lcg_sub)); intro kF kN kM; (try dsimp only))
  k_with "CompSrcT" => (k_here; k_dflt (first | (refine LCt.CompSrcT.range (n := 4) (by rfl) (by k_asm) (by k_asm) (by assumption) (by first | decide | rfl) (by first | rfl | decide) (by first | size_fits | exact Nat.le_of_ble_eq_true rfl) ?_; intro g') | (refine LCt.CompSrcT.range (n := 3) (by rfl) (by k_asm) (by k_asm) (by assumption) (by first | decide | rfl) (by first | rfl | decide) (by first | size_fits | exact Nat.le_of_ble_eq_true rfl) ?_; intro g') | (refine LCt.CompSrcT.range (n := 2) (by rfl) (by k_asm) (by k_asm) (by assumption) (by first | decide | rfl) (by first | rfl | decide) (by first | size_fits | exact Nat.le_of_ble_eq_true rfl) ?_; intro g') | (refine LCt.CompSrcT.range (n := 1) (by rfl) (by k_asm) (by k_asm) (by assumption) (by first | decide | rfl) (by first | rfl | decide) (by first | size_fits | exact Nat.le_of_ble_eq_true rfl) ?_; intro g') | (refine LCt.CompSrcT.range (n := 0) (by rfl) (by k_asm) (by k_asm) (by assumption) (by first | decide | rfl) (by first | rfl | decide) (by first | size_fits | exact Nat.le_of_ble_eq_true rfl) ?_; intro g')))
  k_with "CompRestT" => (refine stop_out ?_)
  k_with "TurnT" => (refine TurnT.mk (by first | exact fun _ h => h | lcg_sub) ?_ (by first | exact StrIs.mk | exact IntIs.mk (by first | rfl | decide | omega)); (try dsimp only); first | assumption | (with_unfolding_all exact decide_eq_true (by assumption)) | (simp_all; done))
  k_with "TurnF" => (refine TurnF.mk (by first | exact fun _ h => h | lcg_sub) ?_; (try dsimp only); first | assumption | (with_unfolding_all exact decide_eq_false (by assumption)) | (simp_all; done))
  k_with "eval ListComp" => (k_here; (with_reducible show wpAny _ _ (eval (Expr.ListComp _ _ _ _) _) _ _ _); first | (lct_look; lcg_calm; k_dflt (refine LCt.ListComp_T (F₀ := by k_asm) (by with_unfolding_all rfl) (by decide) (by rfl) (by decide) (by rfl) ?_); k_dflt lct_toSrc) | (lcf_look; lcg_calm; k_dflt (refine LCg.ListComp_U (F₀ := by k_asm) (by with_unfolding_all rfl) (by decide) (by rfl) (by decide) (by rfl) ?_); k_dflt lcg_toSrc) | (lcg_look; lcg_calm; k_dflt (refine LCg.ListComp_U (F₀ := by k_asm) (by rfl) (by decide) (by rfl) (by decide) (by rfl) ?_); k_dflt lcg_toSrc))
  k_with "binaryOp Mult ref int" => (k_here; (with_reducible show wpAny _ _ (binaryOp Operator.Mult (Value.ref _) (Value.int _ _)) _ _ _); k_dflt (refine' KMa.mul ?F ?N ?l ?lo ?hi ?z ?e ?_; (case F => k_asm); (case N => k_asm); (case l => is_list); (case lo => first | omega | decide); (case hi => first | omega | decide); (case z => (simp only [List.length_cons, List.length_nil]; decide)); (case e => (simp only [Int.sub_zero, Int.sub_self, Int.reduceSub, Int.reduceToNat, Int.toNat_zero, List.replicate_succ, List.replicate_zero, List.flatten_cons, List.flatten_nil, List.cons_append, List.nil_append, List.append_nil]; first | done | exact rfl)); k_whole); intro D' h' F' N' l1; (try k_lt l1); (try k_sweep))
  k_with "CompRest" => (refine stop_out ?_)
  k_with "CompEnd" => k_dflt (first | (refine LCg.CompEnd.intro (by assumption) (by assumption) _ (fun _ h => h) (by assumption) (by lcg_src) ?_) | (refine LCg.CompEnd.intro (by assumption) (by assumption) _ (fun _ h => List.Mem.tail _ h) (by assumption) (by lcg_src) ?_))
  k_with "TurnV" => (refine TurnV.mk (fun _ h => h) (by first | exact StrIs.mk | exact IntIs.mk (by first | rfl | decide | omega) | rfl))
  k_with "FinE" => ((unfold LCg.FinE); intro D' h' tk' F' N' o1'; (replace o1' := off1H o1'); (try simp only [List.nil_append, List.cons_append] at N'); (try simp only [List.nil_append, List.cons_append] at o1'); (try dsimp only))
  k_with "FinA" => ((unfold LCg.FinA); intro D' h' tk' F' N' o1'; (replace o1' := off1H o1'); (try simp only [List.nil_append, List.cons_append] at N'); (try simp only [List.nil_append, List.cons_append] at o1'); (try dsimp only))
  k_with "subscriptTail Name Name ref int" => (k_here; (with_reducible show wpAny _ _ (subscriptTail _ _ (Value.ref _) (Value.int _ _)) _ _ _); k_dflt (refine' item_led ?N ?m ?a ?b ?x ?_; (case N => k_asm); (case m => k_mem); (case a => decide); (case b => decide); (case x => exact rfl)))
  k_with "subscriptTail Name Constant ref int" => (k_here; (with_reducible show wpAny _ _ (subscriptTail _ _ (Value.ref _) (Value.int _ _)) _ _ _); k_dflt (refine' item_led ?N ?m ?a ?b ?x ?_; (case N => k_asm); (case m => k_mem); (case a => decide); (case b => decide); (case x => exact rfl)))
  k_with "subscriptTail Name BinOp ref int" => (k_here; (with_reducible show wpAny _ _ (subscriptTail _ _ (Value.ref _) (Value.int _ _)) _ _ _); k_dflt (refine' item_led ?N ?m ?a ?b ?x ?_; (case N => k_asm); (case m => k_mem); (case a => decide); (case b => decide); (case x => exact rfl)))
  k_with "eval Name" => (k_here; (with_reducible show wpAny _ _ (eval (Expr.Name _ _) (compEnvC _ _ _ _)) _ _ _); k_dflt (first | (refine' lcf_cell ?N ?c ?m ?d ?_ ?a ?b; (case b => exact rfl); (case a => exact rfl); (case N => k_asm); (case c => exact rfl); (case m => k_mem); (case d => k_asm)) | (refine' LCgL.ld_own ?N ?m ?h ?x ?_ ?a ?b; (case b => exact rfl); (case a => exact rfl); (case N => k_asm); (case x => with_reducible assumption); (case m => k_mem); (case h => with_reducible assumption))))
  k_with "SegE" => (refine stop_out ?_)
  k_with "CompSrc" => (k_here; k_dflt (refine LCg.CompSrc.range (n := 4) (by rfl) (by k_asm) (by k_asm) (by assumption) (by first | decide | rfl) (by first | rfl | decide) (by first | size_fits | exact Nat.le_of_ble_eq_true rfl) ?_; intro g'))
  k_with "CompSrc" => (k_here; k_dflt (refine LCg.CompSrc.ledger (by rfl) (by k_asm) (by k_asm) (by k_mem) (by first | size_fits | exact Nat.le_of_ble_eq_true rfl) ?_; intro g'))
  k_with "compareOp In" => (refine stop_out ?_)
  delta SegAt PG lo; k_fill
  intro X T B'
  refine' cellAt_of ?ho ?_
  case ho => k_is
  intro E
  refine LD.each ?_
  intro h' tk' gens' m' o4 o5 o6 o7 bare hm F' N' e4 e5 e6 e7 off
  dsimp only [nthS]
  replace F' := fr_knownG F' hm
  k_steps
  refine stop_in ?_
  refine restU [(· = Value.bool true), (· = Value.bool true), (· = Value.bool true), (· = Value.bool true)] _ rfl (by lcg_src) ⟨?_, ?_, ?_, ?_, trivial⟩ ?_
  · (intro v' I' oI' C' oC' D' m₂' h' tk' E' ys' hv' hC' hx' F' N' off' ne'; (first | lcg_open hv' | (obtain ⟨t9', hv9'⟩ := hv'; subst hv9')); (try dsimp only); k_steps)
  · (intro v' I' oI' C' oC' D' m₂' h' tk' E' ys' hv' hC' hx' F' N' off' ne'; (first | lcg_open hv' | (obtain ⟨t9', hv9'⟩ := hv'; subst hv9')); (try dsimp only); k_steps)
  · (intro v' I' oI' C' oC' D' m₂' h' tk' E' ys' hv' hC' hx' F' N' off' ne'; (first | lcg_open hv' | (obtain ⟨t9', hv9'⟩ := hv'; subst hv9')); (try dsimp only); k_steps)
  · (intro v' I' oI' C' oC' D' m₂' h' tk' E' ys' hv' hC' hx' F' N' off' ne'; (first | lcg_open hv' | (obtain ⟨t9', hv9'⟩ := hv'; subst hv9')); (try dsimp only); k_steps)
  intro ys9 hys9
  obtain ⟨y0, y1, y2, y3, rfl, rfl, rfl, rfl, rfl⟩ := hys9.four
  k_steps
  refine stop_in ?_
  refine PySem.SeqAt.in_listAt isF (by is_list) (fun y hy => ?_) ?_
  · simp only [List.mem_toArray, List.mem_cons, List.not_mem_nil, or_false, or_self] at hy
    subst hy
    exact PySem.SeqAt.EqAt.bool_bool _ _
  rw [isF_none]
  k_steps
  all_goals (
    (try refine stop_in ?_)
    (try dsimp only)
    exact ⟨rfl, LD.mk bare (by k_asm) (by rfl) (by k_asm) (by k_mem) (by k_mem) (by k_mem) (by k_mem) (by assumption) (by assumption) (by assumption) (by assumption) (by lcg_sub) (by repeat' (first | with_reducible assumption | exact off4_sub (by with_reducible assumption) (by lcg_sub) | exact off7_sub4 (by with_reducible assumption) (by lcg_sub) | exact off4_nil | refine off4_consO (by with_reducible assumption) (by k_mem) ?_ | refine off4_cons (by first | with_reducible assumption | exact off1H_at (by with_reducible assumption) (by k_mem)) (by first | with_reducible assumption | exact off1H_at (by with_reducible assumption) (by k_mem)) (by first | with_reducible assumption | exact off1H_at (by with_reducible assumption) (by k_mem)) (by first | with_reducible assumption | exact off1H_at (by with_reducible assumption) (by k_mem)) ?_))⟩)
  k_with_none
end

section
/-- is n a number that is told so -/
noncomputable def nearB (n : Int) (T p0 p1 p2 p3 : Str) : Bool := decide (0 ≤ n) && (decide (n < 16) && (T == dueF n p0 p1 p2 p3))
section
variable {n : Int} {T p0 p1 p2 p3 : Str}
noncomputable def nearL (x k : Int) (b0 b1 b2 b3 : Bool) (p0 p1 p2 p3 : Str) : List Int :=
  filtL [(nearB (x - 1) (toldF (chg 0 k b0) (chg 1 k b1) (chg 2 k b2) (chg 3 k b3) (Str.ofString "\"") p0 p1 p2 p3) p0 p1 p2 p3, x - 1), (nearB (x + 1) (toldF (chg 0 k b0) (chg 1 k b1) (chg 2 k b2) (chg 3 k b3) (Str.ofString "\"") p0 p1 p2 p3) p0 p1 p2 p3, x + 1)]
theorem nearB_t (h0 : 0 ≤ n) (h1 : n < 16) (h : (T == dueF n p0 p1 p2 p3) = true) : nearB n T p0 p1 p2 p3 = true := by unfold nearB; rw [decide_eq_true h0, decide_eq_true h1, h]; rfl
theorem nearB_f1 (h0 : ¬ 0 ≤ n) : nearB n T p0 p1 p2 p3 = false := by unfold nearB; rw [decide_eq_false h0]; rfl
theorem nearB_f2 (h0 : ¬ n < 16) : nearB n T p0 p1 p2 p3 = false := by unfold nearB; rw [decide_eq_false h0, Bool.false_and, Bool.and_false]
theorem nearB_f3 (h : (T == dueF n p0 p1 p2 p3) = false) : nearB n T p0 p1 p2 p3 = false := by unfold nearB; rw [h, Bool.and_false, Bool.and_false]
end
local macro_rules | `(tactic| lcg_src) => `(tactic| exact tupAt_mk (by k_mem))

set_option maxHeartbeats 0 in
theorem seg8 (w : World) (mean : ExcName → Option Value) (mg mb : Str → Option Value) (s : Shared) (L' : Addr) (x : Int) (h0 : 0 ≤ x) (h1 : x < 16) (tm : Tok) (p0 p1 p2 p3 : Str) (v0 v1 v2 v3 : Tok) (lp np : Nat) (hp0 : p0.length < 10) (hp1 : p1.length < 10) (hp2 : p2.length < 10) (hp3 : p3.length < 10) (b0 b1 b2 b3 : Bool) (lr nr : Nat) (hNear : ∀ k : Int, 0 ≤ k → k < 4 → (!decide (nearL x k b0 b1 b2 b3 p0 p1 p2 p3 = [])) = (freeL b1 b2 b3).any fun y => y == k) :
    SegAt w mean mg mb s L' 8 (LD s L' (fun m => m (Str.ofString "moves") = some (.int x tm)) (some (.ref lp)) (some (.ref lr)) none none [(lr, listOf [.bool b0, .bool b1, .bool b2, .bool b3].toArray nr), (lp, listOf [.str p0 v0, .str p1 v1, .str p2 v2, .str p3 v3].toArray np)])
      (fun s₂ => ∃ v6, LD s L' (fun m => m (Str.ofString "moves") = some (.int x tm)) (some (.ref lp)) (some (.ref lr)) v6 none [(lr, listOf [.bool b0, .bool b1, .bool b2, .bool b3].toArray nr), (lp, listOf [.str p0 v0, .str p1 v1, .str p2 v2, .str p3 v3].toArray np)] s₂) := by
  k_with "LeaveK" => (k_dflt (refine' leaveM ?hM ?hN ?G ?k1 ?k2 ?sub ?_; (case G => assumption); (case hM => assumption); (case hN => assumption); (case k1 => k_asm); (case k2 => k_asm); (case sub => lcg_sub)); intro kF kN kM; (try dsimp only))
  k_with "CompSrcT" => (k_here; k_dflt (first | (refine LCt.CompSrcT.range (n := 4) (by rfl) (by k_asm) (by k_asm) (by assumption) (by first | decide | rfl) (by first | rfl | decide) (by first | size_fits | exact Nat.le_of_ble_eq_true rfl) ?_; intro g') | (refine LCt.CompSrcT.range (n := 3) (by rfl) (by k_asm) (by k_asm) (by assumption) (by first | decide | rfl) (by first | rfl | decide) (by first | size_fits | exact Nat.le_of_ble_eq_true rfl) ?_; intro g') | (refine LCt.CompSrcT.range (n := 2) (by rfl) (by k_asm) (by k_asm) (by assumption) (by first | decide | rfl) (by first | rfl | decide) (by first | size_fits | exact Nat.le_of_ble_eq_true rfl) ?_; intro g') | (refine LCt.CompSrcT.range (n := 1) (by rfl) (by k_asm) (by k_asm) (by assumption) (by first | decide | rfl) (by first | rfl | decide) (by first | size_fits | exact Nat.le_of_ble_eq_true rfl) ?_; intro g') | (refine LCt.CompSrcT.range (n := 0) (by rfl) (by k_asm) (by k_asm) (by assumption) (by first | decide | rfl) (by first | rfl | decide) (by first | size_fits | exact Nat.le_of_ble_eq_true rfl) ?_; intro g')))
  k_with "CompRestT" => (refine stop_out ?_)
  k_with "TurnT" => (refine TurnT.mk (by first | exact fun _ h => h | lcg_sub) ?_ (by first | exact StrIs.mk | exact IntIs.mk (by first | rfl | decide | omega)); (try dsimp only); first | assumption | (with_unfolding_all exact decide_eq_true (by assumption)) | (simp_all; done))
  k_with "TurnF" => (refine TurnF.mk (by first | exact fun _ h => h | lcg_sub) ?_; (try dsimp only); first | assumption | (with_unfolding_all exact decide_eq_false (by assumption)) | (simp_all; done))
  k_with "eval ListComp" => (k_here; (with_reducible show wpAny _ _ (eval (Expr.ListComp _ _ _ _) _) _ _ _); first | (lct_look; lcg_calm; k_dflt (refine LCt.ListComp_T (F₀ := by k_asm) (by with_unfolding_all rfl) (by decide) (by rfl) (by decide) (by rfl) ?_); k_dflt lct_toSrc) | (lcf_look; lcg_calm; k_dflt (refine LCg.ListComp_U (F₀ := by k_asm) (by with_unfolding_all rfl) (by decide) (by rfl) (by decide) (by rfl) ?_); k_dflt lcg_toSrc) | (lcg_look; lcg_calm; k_dflt (refine LCg.ListComp_U (F₀ := by k_asm) (by rfl) (by decide) (by rfl) (by decide) (by rfl) ?_); k_dflt lcg_toSrc))
  k_with "binaryOp Mult ref int" => (k_here; (with_reducible show wpAny _ _ (binaryOp Operator.Mult (Value.ref _) (Value.int _ _)) _ _ _); k_dflt (refine' KMa.mul ?F ?N ?l ?lo ?hi ?z ?e ?_; (case F => k_asm); (case N => k_asm); (case l => is_list); (case lo => first | omega | decide); (case hi => first | omega | decide); (case z => (simp only [List.length_cons, List.length_nil]; decide)); (case e => (simp only [Int.sub_zero, Int.sub_self, Int.reduceSub, Int.reduceToNat, Int.toNat_zero, List.replicate_succ, List.replicate_zero, List.flatten_cons, List.flatten_nil, List.cons_append, List.nil_append, List.append_nil]; first | done | exact rfl)); k_whole); intro D' h' F' N' l1; (try k_lt l1); (try k_sweep))
  k_with "CompRest" => (refine stop_out ?_)
  k_with "CompEnd" => k_dflt (first | (refine LCg.CompEnd.intro (by assumption) (by assumption) _ (fun _ h => h) (by assumption) (by lcg_src) ?_) | (refine LCg.CompEnd.intro (by assumption) (by assumption) _ (fun _ h => List.Mem.tail _ h) (by assumption) (by lcg_src) ?_))
  k_with "TurnV" => (refine TurnV.mk (fun _ h => h) (by first | exact StrIs.mk | exact IntIs.mk (by first | rfl | decide | omega) | rfl))
  k_with "FinE" => ((unfold LCg.FinE); intro D' h' tk' F' N' o1'; (replace o1' := off1H o1'); (try simp only [List.nil_append, List.cons_append] at N'); (try simp only [List.nil_append, List.cons_append] at o1'); (try dsimp only))
  k_with "FinA" => ((unfold LCg.FinA); intro D' h' tk' F' N' o1'; (replace o1' := off1H o1'); (try simp only [List.nil_append, List.cons_append] at N'); (try simp only [List.nil_append, List.cons_append] at o1'); (try dsimp only))
  k_with "subscriptTail Name Name ref int" => (k_here; (with_reducible show wpAny _ _ (subscriptTail _ _ (Value.ref _) (Value.int _ _)) _ _ _); k_dflt (refine' item_led ?N ?m ?a ?b ?x ?_; (case N => k_asm); (case m => k_mem); (case a => decide); (case b => decide); (case x => exact rfl)))
  k_with "subscriptTail Name Constant ref int" => (k_here; (with_reducible show wpAny _ _ (subscriptTail _ _ (Value.ref _) (Value.int _ _)) _ _ _); k_dflt (refine' item_led ?N ?m ?a ?b ?x ?_; (case N => k_asm); (case m => k_mem); (case a => decide); (case b => decide); (case x => exact rfl)))
  k_with "subscriptTail Name BinOp ref int" => (k_here; (with_reducible show wpAny _ _ (subscriptTail _ _ (Value.ref _) (Value.int _ _)) _ _ _); k_dflt (refine' item_led ?N ?m ?a ?b ?x ?_; (case N => k_asm); (case m => k_mem); (case a => decide); (case b => decide); (case x => exact rfl)))
  k_with "eval Name" => (k_here; (with_reducible show wpAny _ _ (eval (Expr.Name _ _) (compEnvC _ _ _ _)) _ _ _); k_dflt (first | (refine' lcf_cell ?N ?c ?m ?d ?_ ?a ?b; (case b => exact rfl); (case a => exact rfl); (case N => k_asm); (case c => exact rfl); (case m => k_mem); (case d => k_asm)) | (refine' LCgL.ld_own ?N ?m ?h ?x ?_ ?a ?b; (case b => exact rfl); (case a => exact rfl); (case N => k_asm); (case x => with_reducible assumption); (case m => k_mem); (case h => with_reducible assumption))))
  k_with "SegE" => (refine stop_out ?_)
  k_with "CompSrc" => (k_here; k_dflt (refine LCg.CompSrc.range (n := 4) (by rfl) (by k_asm) (by k_asm) (by assumption) (by first | decide | rfl) (by first | rfl | decide) (by first | size_fits | exact Nat.le_of_ble_eq_true rfl) ?_; intro g'))
  k_with "exec For" => (refine stop_out ?_)
  k_with "pyIter ref" => (refine stop_out ?_)
  k_with "call ref" => (k_here; (with_reducible show wpAny _ _ (call (Value.ref 168) _ _) _ _ _); k_dflt (refine' use_ctr (c_changedK _ _ _ _ ?h0 ?h1 _ _ _ _ _ _ ?m1) ?k1 ?k2 ?k3 ?k4 ?k5 ?kK ?kd ?ku ?_; (case k1 => k_asm); (case k2 => k_asm); (case k3 => k_asm); (case k4 => k_asm); (case k5 => k_asm); (case m1 => k_mem); (case kK => first | exact rfl | assumption); (case kd => first | ktr_room | decide +kernel); (case ku => first | ktr_units | decide +kernel); (case h0 => omega); (case h1 => omega); (intro l9 n9 h9 tk9 F9 N9 o9; (replace o9 := off1H_of o9); (try dsimp only))))
  k_with "call ref" => (k_here; (with_reducible show wpAny _ _ (call (Value.ref 156) _ _) _ _ _); k_dflt (refine' use_ctr (c_due _ _ ?h0 ?h1 _ _ _ _ _ _ _ _ _ _ _ ?p0 ?p1 ?p2 ?p3 _ ?m1) ?k1 ?k2 ?k3 ?k4 ?k5 ?kK ?kd ?ku ?_; (case k1 => k_asm); (case k2 => k_asm); (case k3 => k_asm); (case k4 => k_asm); (case k5 => k_asm); (case m1 => k_mem); (case kK => first | exact rfl | assumption); (case kd => first | ktr_room | decide +kernel); (case ku => first | ktr_units | decide +kernel); (case h0 => omega); (case h1 => omega); (case p0 => assumption); (case p1 => assumption); (case p2 => assumption); (case p3 => assumption); (intro t9 h9 tk9 F9 N9; (try dsimp only))))
  k_with "call ref" => (k_here; (with_reducible show wpAny _ _ (call (Value.ref 173) _ _) _ _ _); k_dflt (refine' use_ctr (c_free _ _ _ _ _ _ _ _ ?m1) ?k1 ?k2 ?k3 ?k4 ?k5 ?kK ?kd ?ku ?_; (case k1 => k_asm); (case k2 => k_asm); (case k3 => k_asm); (case k4 => k_asm); (case k5 => k_asm); (case m1 => k_mem); (case kK => first | exact rfl | assumption); (case kd => first | ktr_room | decide +kernel); (case ku => first | ktr_units | decide +kernel); (refine stop_out ?_)))
  k_with "call ref" => (k_here; (with_reducible show wpAny _ _ (call (Value.ref 151) _ _) _ _ _); k_dflt (refine' use_ctr (c_told _ _ _ _ _ _ _ _ _ _ _ ?hc _ _ _ _ _ _ _ _ ?p0 ?p1 ?p2 ?p3 _ ?m1 ?m2) ?k1 ?k2 ?k3 ?k4 ?k5 ?kK ?kd ?ku ?_; (case k1 => k_asm); (case k2 => k_asm); (case k3 => k_asm); (case k4 => k_asm); (case k5 => k_asm); (case m1 => k_mem); (case m2 => k_mem); (case kK => first | exact rfl | assumption); (case kd => first | ktr_room | decide +kernel); (case ku => first | ktr_units | decide +kernel); (case hc => decide); (case p0 => assumption); (case p1 => assumption); (case p2 => assumption); (case p3 => assumption); (intro t7 h7 tk7 gens7 A7 F7 N7; (try dsimp only))))
  k_with "SrcTT" => (refine stop_out ?_)
  k_with "exec Assign cons ListComp" => (k_here; lct_look; lcg_calm; k_dflt (refine assign_listComp_tup (F₀ := by k_asm) (by rfl) (by with_unfolding_all rfl) (by with_unfolding_all rfl) (by decide) (by rfl) (by decide) (by rfl) (by rfl) (by rfl) ?_))
  k_with "TurnT" => (refine TurnT.mk (by lcg_sub) ?_ (by exact IntIs.mk rfl); (try dsimp only); exact nearB_t (by omega) (by omega) (by assumption))
  k_with "TurnF" => (refine TurnF.mk (by lcg_sub) ?_; (try dsimp only); first | exact nearB_f3 (by assumption) | exact nearB_f1 (by omega) | exact nearB_f2 (by omega))
  delta SegAt PG lo; k_fill
  intro X T B'
  refine' cellAt_of ?ho ?_
  case ho => k_is
  intro E
  refine LD.each ?_
  intro h' tk' gens' m' o4 o5 o6 o7 bare hm F' N' e4 e5 e6 e7 off
  dsimp only [nthS]
  replace F' := fr_knownG F' hm
  refine wpAny_For (hs := fun _ => rfl) ?_
  k_steps
  refine stop_in ?_
  rename IsRange _ _ _ _ _ _ _ _ => rg
  rename Fr s.heap L' _ _ => F7
  rename News s.heap L' _ _ => N7
  refine wpAny_pyIter_range rg rfl ?_
  (try dsimp only)
  have hI := fun tk => LD.ofIter (a := 0) (c := 1) (n := 4) (tk := tk) bare F7 (fm := (fun m => m (Str.ofString "moves") = some (.int x tm))) (by rfl) N7 e4 e5 e6 e7 off
  refine for_rangeD (s := s) (L' := L') (fm := (fun m => m (Str.ofString "moves") = some (.int x tm))) (a := 0) (c := 1) (n := 4) (fun _ _ => True) (fun _ => some (.ref lr)) (fun d => d) (fun _ => none) (fun _ => [(lr, listOf [.bool b0, .bool b1, .bool b2, .bool b3].toArray nr), (lp, listOf [.str p0 v0, .str p1 v1, .str p2 v2, .str p3 v3].toArray np)]) rfl rfl rfl rfl ?hfm none trivial (hI _).1 (hI 0).2 ?turn ?done
  case hfm => (intro m v hm; exact hm)
  case done => (intro d s₂ _ h; exact ⟨rfl, d, h⟩)
  case turn =>
    clear hI N7 F7 rg e4 e5 e6 e7 bare
    rename Fr s.heap L' _ _ => F7
    rename News s.heap L' _ _ => N7
    clear F7 N7
    rintro i d t oI s₂ hi - hls hD
    refine LD.each ?_ s₂ hD
    clear hD s₂
    intro h' tk' gens' m' o4 o5 o6 o7 bare hkm F' N' e4 e5 e6 e7 off
    have hk := hkm.1; have hm := hkm.2
    obtain ⟨k, hk0, hk1, ek⟩ : ∃ k : Int, 0 ≤ k ∧ k < 4 ∧ 0 + (i : Int) * 1 = k := ⟨_, by omega, by omega, rfl⟩
    rw [ek] at hk
    clear ek hi
    replace F' := fr_known2G F' hk hm
    have hlr : NeH lr _ := hls _ (.head _)
    have hlp : NeH lp _ := hls _ (.tail _ (.head _))
    k_steps
    refine stop_in ?_
    refine ⟨_, #[.int (x - 1) _, .int (x + 1) _], _, rfl, rfl, by k_asm, by k_asm, ⟨_, by k_mem, rfl, _, rfl⟩, by (first | size_fits | exact Nat.le_of_ble_eq_true rfl), ?_⟩
    rintro s2 ⟨g2, rfl⟩
    refine restT [(nearB (x - 1) (toldF (chg 0 k b0) (chg 1 k b1) (chg 2 k b2) (chg 3 k b3) (Str.ofString "\"") p0 p1 p2 p3) p0 p1 p2 p3, IntIs (x - 1)), (nearB (x + 1) (toldF (chg 0 k b0) (chg 1 k b1) (chg 2 k b2) (chg 3 k b3) (Str.ofString "\"") p0 p1 p2 p3) p0 p1 p2 p3, IntIs (x + 1))] _ rfl ⟨_, by k_mem, rfl, _, rfl⟩ ⟨?_, ?_, trivial⟩ ?_
    · (intro v' I' oI' C' oC' D' m' h' tk' E' ys' hv' hC' hx' F' N' off' ne'; (first | lcg_open hv' | (obtain ⟨t9', hv9'⟩ := hv'; subst hv9'; replace hx' : _ = some (Value.int 0 t9') := hx')); (try dsimp only); k_steps)
    · (intro v' I' oI' C' oC' D' m' h' tk' E' ys' hv' hC' hx' F' N' off' ne'; (first | lcg_open hv' | (obtain ⟨t9', hv9'⟩ := hv'; subst hv9'; replace hx' : _ = some (Value.int 1 t9') := hx')); (try dsimp only); k_steps)
    intro ys hys
    have hI := intsAre_filt (l := [(nearB (x - 1) (toldF (chg 0 k b0) (chg 1 k b1) (chg 2 k b2) (chg 3 k b3) (Str.ofString "\"") p0 p1 p2 p3) p0 p1 p2 p3, x - 1), (nearB (x + 1) (toldF (chg 0 k b0) (chg 1 k b1) (chg 2 k b2) (chg 3 k b3) (Str.ofString "\"") p0 p1 p2 p3) p0 p1 p2 p3, x + 1)]) hys
    k_steps
    refine stop_in ?_
    intro l9 us9 n9 h9 tk9 F9 N9 o9 I9
    (replace o9 := off1H_of o9)
    (try dsimp only)
    k_steps
    all_goals (refine stop_in ?_)
    · exfalso
      have hN := hNear k hk0 hk1
      unfold nearL at hN
      rename _ = true => hne
      rw [hN] at hne
      simp at hne
    exact ⟨rfl, _, trivial, hls, LD.mk (fun q => (by assumption : AllBare _ → AllBare _) (bare q)) (by k_asm) (by rfl) (by k_asm) (by k_mem) (by k_mem) (by k_mem) (by k_mem) (by assumption) (by assumption) (by assumption) (by assumption) (by lcg_sub) (by repeat' (first | with_reducible assumption | exact off4_sub (by with_reducible assumption) (by lcg_sub) | exact off7_sub4 (by with_reducible assumption) (by lcg_sub) | exact off4_nil | refine off4_consO (by with_reducible assumption) (by k_mem) ?_ | refine off4_cons (by first | with_reducible assumption | exact off1H_at (by with_reducible assumption) (by k_mem)) (by first | with_reducible assumption | exact off1H_at (by with_reducible assumption) (by k_mem)) (by first | with_reducible assumption | exact off1H_at (by with_reducible assumption) (by k_mem)) (by first | with_reducible assumption | exact off1H_at (by with_reducible assumption) (by k_mem)) ?_))⟩
  k_with_none
end

section
set_option maxHeartbeats 0 in
theorem seg9 (w : World) (mean : ExcName → Option Value) (mg mb : Str → Option Value) (s : Shared) (L' : Addr) (x : Int) (tm : Tok) (p0 p1 p2 p3 : Str) (v0 v1 v2 v3 : Tok) (lp np : Nat) (hp0 : p0.length < 10) (hp1 : p1.length < 10) (hp2 : p2.length < 10) (hp3 : p3.length < 10) (b0 b1 b2 b3 : Bool) (lr nr : Nat) (v6 : Option Value) :
    SegAt w mean mg mb s L' 9 (LD s L' (fun m => m (Str.ofString "moves") = some (.int x tm)) (some (.ref lp)) (some (.ref lr)) v6 none [(lr, listOf [.bool b0, .bool b1, .bool b2, .bool b3].toArray nr), (lp, listOf [.str p0 v0, .str p1 v1, .str p2 v2, .str p3 v3].toArray np)])
      (fun s₂ => ∃ v t, ((cnt4 b0 b1 b2 b3).fmod 2 = 0 → v = 3) ∧ ((cnt4 b0 b1 b2 b3).fmod 2 ≠ 0 → v = -1) ∧ LD s L' (fun m => m (Str.ofString "moves") = some (.int x tm)) (some (.ref lp)) (some (.ref lr)) v6 (some (.int v t)) [(lr, listOf [.bool b0, .bool b1, .bool b2, .bool b3].toArray nr), (lp, listOf [.str p0 v0, .str p1 v1, .str p2 v2, .str p3 v3].toArray np)] s₂) := by
  k_with "LeaveK" => (k_dflt (refine' leaveM ?hM ?hN ?G ?k1 ?k2 ?sub ?_; (case G => assumption); (case hM => assumption); (case hN => assumption); (case k1 => k_asm); (case k2 => k_asm); (case sub => lcg_sub)); intro kF kN kM; (try dsimp only))
  k_with "CompSrcT" => (k_here; k_dflt (first | (refine LCt.CompSrcT.range (n := 4) (by rfl) (by k_asm) (by k_asm) (by assumption) (by first | decide | rfl) (by first | rfl | decide) (by first | size_fits | exact Nat.le_of_ble_eq_true rfl) ?_; intro g') | (refine LCt.CompSrcT.range (n := 3) (by rfl) (by k_asm) (by k_asm) (by assumption) (by first | decide | rfl) (by first | rfl | decide) (by first | size_fits | exact Nat.le_of_ble_eq_true rfl) ?_; intro g') | (refine LCt.CompSrcT.range (n := 2) (by rfl) (by k_asm) (by k_asm) (by assumption) (by first | decide | rfl) (by first | rfl | decide) (by first | size_fits | exact Nat.le_of_ble_eq_true rfl) ?_; intro g') | (refine LCt.CompSrcT.range (n := 1) (by rfl) (by k_asm) (by k_asm) (by assumption) (by first | decide | rfl) (by first | rfl | decide) (by first | size_fits | exact Nat.le_of_ble_eq_true rfl) ?_; intro g') | (refine LCt.CompSrcT.range (n := 0) (by rfl) (by k_asm) (by k_asm) (by assumption) (by first | decide | rfl) (by first | rfl | decide) (by first | size_fits | exact Nat.le_of_ble_eq_true rfl) ?_; intro g')))
  k_with "CompRestT" => (refine stop_out ?_)
  k_with "TurnT" => (refine TurnT.mk (by first | exact fun _ h => h | lcg_sub) ?_ (by first | exact StrIs.mk | exact IntIs.mk (by first | rfl | decide | omega)); (try dsimp only); first | assumption | (with_unfolding_all exact decide_eq_true (by assumption)) | (simp_all; done))
  k_with "TurnF" => (refine TurnF.mk (by first | exact fun _ h => h | lcg_sub) ?_; (try dsimp only); first | assumption | (with_unfolding_all exact decide_eq_false (by assumption)) | (simp_all; done))
  k_with "eval ListComp" => (k_here; (with_reducible show wpAny _ _ (eval (Expr.ListComp _ _ _ _) _) _ _ _); first | (lct_look; lcg_calm; k_dflt (refine LCt.ListComp_T (F₀ := by k_asm) (by with_unfolding_all rfl) (by decide) (by rfl) (by decide) (by rfl) ?_); k_dflt lct_toSrc) | (lcf_look; lcg_calm; k_dflt (refine LCg.ListComp_U (F₀ := by k_asm) (by with_unfolding_all rfl) (by decide) (by rfl) (by decide) (by rfl) ?_); k_dflt lcg_toSrc) | (lcg_look; lcg_calm; k_dflt (refine LCg.ListComp_U (F₀ := by k_asm) (by rfl) (by decide) (by rfl) (by decide) (by rfl) ?_); k_dflt lcg_toSrc))
  k_with "binaryOp Mult ref int" => (k_here; (with_reducible show wpAny _ _ (binaryOp Operator.Mult (Value.ref _) (Value.int _ _)) _ _ _); k_dflt (refine' KMa.mul ?F ?N ?l ?lo ?hi ?z ?e ?_; (case F => k_asm); (case N => k_asm); (case l => is_list); (case lo => first | omega | decide); (case hi => first | omega | decide); (case z => (simp only [List.length_cons, List.length_nil]; decide)); (case e => (simp only [Int.sub_zero, Int.sub_self, Int.reduceSub, Int.reduceToNat, Int.toNat_zero, List.replicate_succ, List.replicate_zero, List.flatten_cons, List.flatten_nil, List.cons_append, List.nil_append, List.append_nil]; first | done | exact rfl)); k_whole); intro D' h' F' N' l1; (try k_lt l1); (try k_sweep))
  k_with "CompRest" => (refine stop_out ?_)
  k_with "CompEnd" => k_dflt (first | (refine LCg.CompEnd.intro (by assumption) (by assumption) _ (fun _ h => h) (by assumption) (by lcg_src) ?_) | (refine LCg.CompEnd.intro (by assumption) (by assumption) _ (fun _ h => List.Mem.tail _ h) (by assumption) (by lcg_src) ?_))
  k_with "TurnV" => (refine TurnV.mk (fun _ h => h) (by first | exact StrIs.mk | exact IntIs.mk (by first | rfl | decide | omega) | rfl))
  k_with "FinE" => ((unfold LCg.FinE); intro D' h' tk' F' N' o1'; (replace o1' := off1H o1'); (try simp only [List.nil_append, List.cons_append] at N'); (try simp only [List.nil_append, List.cons_append] at o1'); (try dsimp only))
  k_with "FinA" => ((unfold LCg.FinA); intro D' h' tk' F' N' o1'; (replace o1' := off1H o1'); (try simp only [List.nil_append, List.cons_append] at N'); (try simp only [List.nil_append, List.cons_append] at o1'); (try dsimp only))
  k_with "subscriptTail Name Name ref int" => (k_here; (with_reducible show wpAny _ _ (subscriptTail _ _ (Value.ref _) (Value.int _ _)) _ _ _); k_dflt (refine' item_led ?N ?m ?a ?b ?x ?_; (case N => k_asm); (case m => k_mem); (case a => decide); (case b => decide); (case x => exact rfl)))
  k_with "subscriptTail Name Constant ref int" => (k_here; (with_reducible show wpAny _ _ (subscriptTail _ _ (Value.ref _) (Value.int _ _)) _ _ _); k_dflt (refine' item_led ?N ?m ?a ?b ?x ?_; (case N => k_asm); (case m => k_mem); (case a => decide); (case b => decide); (case x => exact rfl)))
  k_with "subscriptTail Name BinOp ref int" => (k_here; (with_reducible show wpAny _ _ (subscriptTail _ _ (Value.ref _) (Value.int _ _)) _ _ _); k_dflt (refine' item_led ?N ?m ?a ?b ?x ?_; (case N => k_asm); (case m => k_mem); (case a => decide); (case b => decide); (case x => exact rfl)))
  k_with "eval Name" => (k_here; (with_reducible show wpAny _ _ (eval (Expr.Name _ _) (compEnvC _ _ _ _)) _ _ _); k_dflt (first | (refine' lcf_cell ?N ?c ?m ?d ?_ ?a ?b; (case b => exact rfl); (case a => exact rfl); (case N => k_asm); (case c => exact rfl); (case m => k_mem); (case d => k_asm)) | (refine' LCgL.ld_own ?N ?m ?h ?x ?_ ?a ?b; (case b => exact rfl); (case a => exact rfl); (case N => k_asm); (case x => with_reducible assumption); (case m => k_mem); (case h => with_reducible assumption))))
  k_with "SegE" => (refine stop_out ?_)
  k_with "CompSrc" => (k_here; k_dflt (refine LCg.CompSrc.range (n := 4) (by rfl) (by k_asm) (by k_asm) (by assumption) (by first | decide | rfl) (by first | rfl | decide) (by first | size_fits | exact Nat.le_of_ble_eq_true rfl) ?_; intro g'))
  k_with "call builtin:sum" => (refine stop_out ?_)
  delta SegAt PG lo; k_fill
  intro X T B'
  refine' cellAt_of ?ho ?_
  case ho => k_is
  intro E
  refine LD.each ?_
  intro h' tk' gens' m' o4 o5 o6 o7 bare hm F' N' e4 e5 e6 e7 off
  dsimp only [nthS]
  replace F' := fr_knownG F' hm
  k_steps
  refine stop_in ?_
  refine sum_bools (bs := [b0, b1, b2, b3]) rfl (by k_asm) (by k_asm) (by is_list) ?_
  intro h9 tk9 u9 F9 N9
  rw [show preSum (fun i => if [b0, b1, b2, b3].getD i false = true then 1 else 0) [b0, b1, b2, b3].length = cnt4 b0 b1 b2 b3 from rfl]
  have hm0 : 0 ≤ (cnt4 b0 b1 b2 b3).fmod 2 := fmod_lo _ (by decide)
  have hm1 : (cnt4 b0 b1 b2 b3).fmod 2 < 2 := fmod_hi _ (by decide)
  k_steps
  all_goals (
    (try refine stop_in ?_)
    (try dsimp only)
    refine ⟨rfl, _, _, ?_, ?_, LD.mk bare (by k_asm) (by rfl) (by k_asm) (by k_mem) (by k_mem) (by k_mem) (by k_mem) (by assumption) (by assumption) (by assumption) (by assumption) (by lcg_sub) (by repeat' (first | with_reducible assumption | exact off4_sub (by with_reducible assumption) (by lcg_sub) | exact off7_sub4 (by with_reducible assumption) (by lcg_sub) | exact off4_nil | refine off4_consO (by with_reducible assumption) (by k_mem) ?_ | refine off4_cons (by first | with_reducible assumption | exact off1H_at (by with_reducible assumption) (by k_mem)) (by first | with_reducible assumption | exact off1H_at (by with_reducible assumption) (by k_mem)) (by first | with_reducible assumption | exact off1H_at (by with_reducible assumption) (by k_mem)) (by first | with_reducible assumption | exact off1H_at (by with_reducible assumption) (by k_mem)) ?_))⟩
    · intro h; first | rfl | (exfalso; omega)
    · intro h; first | rfl | (exfalso; omega))
  k_with_none
end

section
noncomputable def JS (z : Str) (s : Shared) (v : Value) (s' : Shared) : Prop := ∃ t tk', v = .str z t ∧ s' = { s with toks := tk' }
theorem join_str {M : Model} {A : Around} {E : Value → Shared → Prop} {s : Shared} {b : Bool} {t1 t2 : Sem Value} {z1 z2 : Str} {Q : Value → Shared → Prop} (h1 : b = true → wpAny M A t1 (JS z1 s) E s) (h2 : b = false → wpAny M A t2 (JS z2 s) E s) (h : ∀ t tk', Q (.str (if b = true then z1 else z2) t) { s with toks := tk' }) : if b = true then wpAny M A t1 Q E s else wpAny M A t2 Q E s := by
  cases b with
  | true => exact wpAny_mono (h1 rfl) (fun v s' ⟨t, tk, e1, e2⟩ => by subst e1; subst e2; exact h t tk) fun _ _ e => e
  | false => exact wpAny_mono (h2 rfl) (fun v s' ⟨t, tk, e1, e2⟩ => by subst e1; subst e2; exact h t tk) fun _ _ e => e
/-- a letter of a word -/
noncomputable def wc (b : Bool) (c e : Nat) : Nat := if b = true then e else c
noncomputable abbrev wl (b : Bool) (p : Str) : Str := if b = true then Txt.upper (Txt.item p 0) else Txt.item p 0
theorem wl_is {b : Bool} {p : Str} {c e : Nat} (i : Txt.item p 0 = ⟨#[c]⟩) (u : Txt.upper ⟨#[c]⟩ = ⟨#[e]⟩) : wl b p = ⟨#[wc b c e]⟩ := by
  unfold wl wc
  cases b
  · simp [i]
  · simp [i, u]
theorem word_fit (a b c d : Nat) : (([⟨#[a]⟩, ⟨#[b]⟩, ⟨#[c]⟩, ⟨#[d]⟩] : List Str).map (·.length)).sum + ([⟨#[a]⟩, ⟨#[b]⟩, ⟨#[c]⟩, ⟨#[d]⟩] : List Str).length ≤ 1048576 := by
  simp [Str.length]
theorem word_is (a b c d : Nat) : Txt.join (Str.ofString "") [⟨#[a]⟩, ⟨#[b]⟩, ⟨#[c]⟩, ⟨#[d]⟩] = ⟨#[a, b, c, d]⟩ := rfl
end

section
set_option maxHeartbeats 0 in
theorem segB0 (w : World) (mean : ExcName → Option Value) (mg mb : Str → Option Value) (s : Shared) (L' : Addr) (x l : Int) (h0 : 0 ≤ l) (h1 : l < 16) (tm tl : Tok) (IT : Addr) (oI : Obj) (lr nr : Nat) (v6 : Option Value) (lv : Int) (tv : Tok) (p0 p1 p2 p3 : Str) (v0 v1 v2 v3 : Tok) (lp np : Nat) (hp0 : p0.length < 10) (hp1 : p1.length < 10) (hp2 : p2.length < 10) (hp3 : p3.length < 10) :
    SegBd w mean mg mb s L' 0 (LD s L' (fun m => m (Str.ofString "left") = some (.int l tl) ∧ m (Str.ofString "moves") = some (.int x tm)) (some (.ref lp)) (some (.ref lr)) v6 (some (.int lv tv)) [(IT, oI), (lr, listOf [.bool (ring0 l), .bool (ring1 l), .bool (ring2 l), .bool (ring3 l)].toArray nr), (lp, listOf [.str p0 v0, .str p1 v1, .str p2 v2, .str p3 v3].toArray np)]) (LD s L' (fun m => m (Str.ofString "left") = some (.int l tl) ∧ m (Str.ofString "moves") = some (.int x tm)) (some (.ref lp)) (some (.ref lr)) v6 (some (.int lv tv)) [(IT, oI), (lr, listOf [.bool (ring0 l), .bool (ring1 l), .bool (ring2 l), .bool (ring3 l)].toArray nr), (lp, listOf [.str p0 v0, .str p1 v1, .str p2 v2, .str p3 v3].toArray np)]) := by
  k_with "LeaveK" => (k_dflt (refine' leaveM ?hM ?hN ?G ?k1 ?k2 ?sub ?_; (case G => assumption); (case hM => assumption); (case hN => assumption); (case k1 => k_asm); (case k2 => k_asm); (case sub => lcg_sub)); intro kF kN kM; (try dsimp only))
  k_with "CompSrcT" => (k_here; k_dflt (first | (refine LCt.CompSrcT.range (n := 4) (by rfl) (by k_asm) (by k_asm) (by assumption) (by first | decide | rfl) (by first | rfl | decide) (by first | size_fits | exact Nat.le_of_ble_eq_true rfl) ?_; intro g') | (refine LCt.CompSrcT.range (n := 3) (by rfl) (by k_asm) (by k_asm) (by assumption) (by first | decide | rfl) (by first | rfl | decide) (by first | size_fits | exact Nat.le_of_ble_eq_true rfl) ?_; intro g') | (refine LCt.CompSrcT.range (n := 2) (by rfl) (by k_asm) (by k_asm) (by assumption) (by first | decide | rfl) (by first | rfl | decide) (by first | size_fits | exact Nat.le_of_ble_eq_true rfl) ?_; intro g') | (refine LCt.CompSrcT.range (n := 1) (by rfl) (by k_asm) (by k_asm) (by assumption) (by first | decide | rfl) (by first | rfl | decide) (by first | size_fits | exact Nat.le_of_ble_eq_true rfl) ?_; intro g') | (refine LCt.CompSrcT.range (n := 0) (by rfl) (by k_asm) (by k_asm) (by assumption) (by first | decide | rfl) (by first | rfl | decide) (by first | size_fits | exact Nat.le_of_ble_eq_true rfl) ?_; intro g')))
  k_with "CompRestT" => (refine stop_out ?_)
  k_with "TurnT" => (refine TurnT.mk (by first | exact fun _ h => h | lcg_sub) ?_ (by first | exact StrIs.mk | exact IntIs.mk (by first | rfl | decide | omega)); (try dsimp only); first | assumption | (with_unfolding_all exact decide_eq_true (by assumption)) | (simp_all; done))
  k_with "TurnF" => (refine TurnF.mk (by first | exact fun _ h => h | lcg_sub) ?_; (try dsimp only); first | assumption | (with_unfolding_all exact decide_eq_false (by assumption)) | (simp_all; done))
  k_with "eval ListComp" => (k_here; (with_reducible show wpAny _ _ (eval (Expr.ListComp _ _ _ _) _) _ _ _); first | (lct_look; lcg_calm; k_dflt (refine LCt.ListComp_T (F₀ := by k_asm) (by with_unfolding_all rfl) (by decide) (by rfl) (by decide) (by rfl) ?_); k_dflt lct_toSrc) | (lcf_look; lcg_calm; k_dflt (refine LCg.ListComp_U (F₀ := by k_asm) (by with_unfolding_all rfl) (by decide) (by rfl) (by decide) (by rfl) ?_); k_dflt lcg_toSrc) | (lcg_look; lcg_calm; k_dflt (refine LCg.ListComp_U (F₀ := by k_asm) (by rfl) (by decide) (by rfl) (by decide) (by rfl) ?_); k_dflt lcg_toSrc))
  k_with "binaryOp Mult ref int" => (k_here; (with_reducible show wpAny _ _ (binaryOp Operator.Mult (Value.ref _) (Value.int _ _)) _ _ _); k_dflt (refine' KMa.mul ?F ?N ?l ?lo ?hi ?z ?e ?_; (case F => k_asm); (case N => k_asm); (case l => is_list); (case lo => first | omega | decide); (case hi => first | omega | decide); (case z => (simp only [List.length_cons, List.length_nil]; decide)); (case e => (simp only [Int.sub_zero, Int.sub_self, Int.reduceSub, Int.reduceToNat, Int.toNat_zero, List.replicate_succ, List.replicate_zero, List.flatten_cons, List.flatten_nil, List.cons_append, List.nil_append, List.append_nil]; first | done | exact rfl)); k_whole); intro D' h' F' N' l1; (try k_lt l1); (try k_sweep))
  k_with "CompRest" => (refine stop_out ?_)
  k_with "CompEnd" => k_dflt (first | (refine LCg.CompEnd.intro (by assumption) (by assumption) _ (fun _ h => h) (by assumption) (by lcg_src) ?_) | (refine LCg.CompEnd.intro (by assumption) (by assumption) _ (fun _ h => List.Mem.tail _ h) (by assumption) (by lcg_src) ?_))
  k_with "TurnV" => (refine TurnV.mk (fun _ h => h) (by first | exact StrIs.mk | exact IntIs.mk (by first | rfl | decide | omega) | rfl))
  k_with "FinE" => ((unfold LCg.FinE); intro D' h' tk' F' N' o1'; (replace o1' := off1H o1'); (try simp only [List.nil_append, List.cons_append] at N'); (try simp only [List.nil_append, List.cons_append] at o1'); (try dsimp only))
  k_with "FinA" => ((unfold LCg.FinA); intro D' h' tk' F' N' o1'; (replace o1' := off1H o1'); (try simp only [List.nil_append, List.cons_append] at N'); (try simp only [List.nil_append, List.cons_append] at o1'); (try dsimp only))
  k_with "subscriptTail Name Name ref int" => (k_here; (with_reducible show wpAny _ _ (subscriptTail _ _ (Value.ref _) (Value.int _ _)) _ _ _); k_dflt (refine' item_led ?N ?m ?a ?b ?x ?_; (case N => k_asm); (case m => k_mem); (case a => decide); (case b => decide); (case x => exact rfl)))
  k_with "subscriptTail Name Constant ref int" => (k_here; (with_reducible show wpAny _ _ (subscriptTail _ _ (Value.ref _) (Value.int _ _)) _ _ _); k_dflt (refine' item_led ?N ?m ?a ?b ?x ?_; (case N => k_asm); (case m => k_mem); (case a => decide); (case b => decide); (case x => exact rfl)))
  k_with "subscriptTail Name BinOp ref int" => (k_here; (with_reducible show wpAny _ _ (subscriptTail _ _ (Value.ref _) (Value.int _ _)) _ _ _); k_dflt (refine' item_led ?N ?m ?a ?b ?x ?_; (case N => k_asm); (case m => k_mem); (case a => decide); (case b => decide); (case x => exact rfl)))
  k_with "eval Name" => (k_here; (with_reducible show wpAny _ _ (eval (Expr.Name _ _) (compEnvC _ _ _ _)) _ _ _); k_dflt (first | (refine' lcf_cell ?N ?c ?m ?d ?_ ?a ?b; (case b => exact rfl); (case a => exact rfl); (case N => k_asm); (case c => exact rfl); (case m => k_mem); (case d => k_asm)) | (refine' LCgL.ld_own ?N ?m ?h ?x ?_ ?a ?b; (case b => exact rfl); (case a => exact rfl); (case N => k_asm); (case x => with_reducible assumption); (case m => k_mem); (case h => with_reducible assumption))))
  k_with "SegE" => (refine stop_out ?_)
  k_with "CompSrc" => (k_here; k_dflt (refine LCg.CompSrc.range (n := 4) (by rfl) (by k_asm) (by k_asm) (by assumption) (by first | decide | rfl) (by first | rfl | decide) (by first | size_fits | exact Nat.le_of_ble_eq_true rfl) ?_; intro g'))
  k_with "call ref" => (k_here; (with_reducible show wpAny _ _ (call (Value.ref 113) _ _) _ _ _); k_dflt (refine' use_ctr (c_iseof _ _ _ _) ?k1 ?k2 ?k3 ?k4 ?k5 ?kK ?kd ?ku ?_; (case k1 => k_asm); (case k2 => k_asm); (case k3 => k_asm); (case k4 => k_asm); (case k5 => k_asm); (case kK => first | exact rfl | assumption); (case kd => first | ktr_room | decide +kernel); (case ku => first | ktr_units | decide +kernel); (intro t9 h9 tk9 F9 N9; (try dsimp only))))
  k_with "call ref" => (k_here; (with_reducible show wpAny _ _ (call (Value.ref 141) _ _) _ _ _); k_dflt (refine' use_ctr (c_folded _ _ ?h0 ?h1 _ _) ?k1 ?k2 ?k3 ?k4 ?k5 ?kK ?kd ?ku ?_; (case k1 => k_asm); (case k2 => k_asm); (case k3 => k_asm); (case k4 => k_asm); (case k5 => k_asm); (case kK => first | exact rfl | assumption); (case kd => first | ktr_room | decide +kernel); (case ku => first | ktr_units | decide +kernel); (case h0 => assumption); (case h1 => assumption); (intro l9 n9 h9 tk9 F9 N9 o9; (replace o9 := off1H_of o9); (try dsimp only))))
  delta SegBd PG lo; k_fill
  intro X T B'
  refine' cellAt_of ?ho ?_
  case ho => k_is
  intro E
  refine LD.each ?_
  intro h' tk' gens' m' o4 o5 o6 o7 bare hm F' N' e4 e5 e6 e7 off
  dsimp only [nthS, forBody]
  have hm1 := hm.1; have hm2 := hm.2
  replace F' := fr_known2G F' hm1 hm2
  k_steps
  all_goals (refine stop_in ?_)
  · exfalso
    rename _ = true => hne
    rw [show (l == 0) = decide (l = 0) from rfl] at hne
    simp at hne
  all_goals (
    (try refine stop_in ?_)
    (try dsimp only)
    exact ⟨rfl, LD.mk bare (by k_asm) ⟨by rfl, by rfl⟩ (by k_asm) (by k_mem) (by k_mem) (by k_mem) (by k_mem) (by assumption) (by assumption) (by assumption) (by assumption) (by lcg_sub) (by repeat' (first | with_reducible assumption | exact off4_sub (by with_reducible assumption) (by lcg_sub) | exact off7_sub4 (by with_reducible assumption) (by lcg_sub) | exact off4_nil | refine off4_consO (by with_reducible assumption) (by k_mem) ?_ | refine off4_cons (by first | with_reducible assumption | exact off1H_at (by with_reducible assumption) (by k_mem)) (by first | with_reducible assumption | exact off1H_at (by with_reducible assumption) (by k_mem)) (by first | with_reducible assumption | exact off1H_at (by with_reducible assumption) (by k_mem)) (by first | with_reducible assumption | exact off1H_at (by with_reducible assumption) (by k_mem)) ?_))⟩)
  k_with_none
end

section
set_option maxHeartbeats 0 in
theorem segB1 (w : World) (mean : ExcName → Option Value) (mg mb : Str → Option Value) (s : Shared) (L' : Addr) (x l : Int) (h0 : 0 ≤ l) (h1 : l < 16) (tm tl : Tok) (IT : Addr) (oI : Obj) (lr nr : Nat) (v6 : Option Value) (lv : Int) (tv : Tok) (p0 p1 p2 p3 : Str) (v0 v1 v2 v3 : Tok) (lp np : Nat) (hp0 : p0.length < 10) (hp1 : p1.length < 10) (hp2 : p2.length < 10) (hp3 : p3.length < 10) (hTold : toldF (ring0 l) (ring1 l) (ring2 l) (ring3 l) (Str.ofString "\"") p0 p1 p2 p3 = dueF l p0 p1 p2 p3) :
    SegBd w mean mg mb s L' 1 (LD s L' (fun m => m (Str.ofString "left") = some (.int l tl) ∧ m (Str.ofString "moves") = some (.int x tm)) (some (.ref lp)) (some (.ref lr)) v6 (some (.int lv tv)) [(IT, oI), (lr, listOf [.bool (ring0 l), .bool (ring1 l), .bool (ring2 l), .bool (ring3 l)].toArray nr), (lp, listOf [.str p0 v0, .str p1 v1, .str p2 v2, .str p3 v3].toArray np)]) (LD s L' (fun m => m (Str.ofString "left") = some (.int l tl) ∧ m (Str.ofString "moves") = some (.int x tm)) (some (.ref lp)) (some (.ref lr)) v6 (some (.int lv tv)) [(IT, oI), (lr, listOf [.bool (ring0 l), .bool (ring1 l), .bool (ring2 l), .bool (ring3 l)].toArray nr), (lp, listOf [.str p0 v0, .str p1 v1, .str p2 v2, .str p3 v3].toArray np)]) := by
  k_with "LeaveK" => (k_dflt (refine' leaveM ?hM ?hN ?G ?k1 ?k2 ?sub ?_; (case G => assumption); (case hM => assumption); (case hN => assumption); (case k1 => k_asm); (case k2 => k_asm); (case sub => lcg_sub)); intro kF kN kM; (try dsimp only))
  k_with "CompSrcT" => (k_here; k_dflt (first | (refine LCt.CompSrcT.range (n := 4) (by rfl) (by k_asm) (by k_asm) (by assumption) (by first | decide | rfl) (by first | rfl | decide) (by first | size_fits | exact Nat.le_of_ble_eq_true rfl) ?_; intro g') | (refine LCt.CompSrcT.range (n := 3) (by rfl) (by k_asm) (by k_asm) (by assumption) (by first | decide | rfl) (by first | rfl | decide) (by first | size_fits | exact Nat.le_of_ble_eq_true rfl) ?_; intro g') | (refine LCt.CompSrcT.range (n := 2) (by rfl) (by k_asm) (by k_asm) (by assumption) (by first | decide | rfl) (by first | rfl | decide) (by first | size_fits | exact Nat.le_of_ble_eq_true rfl) ?_; intro g') | (refine LCt.CompSrcT.range (n := 1) (by rfl) (by k_asm) (by k_asm) (by assumption) (by first | decide | rfl) (by first | rfl | decide) (by first | size_fits | exact Nat.le_of_ble_eq_true rfl) ?_; intro g') | (refine LCt.CompSrcT.range (n := 0) (by rfl) (by k_asm) (by k_asm) (by assumption) (by first | decide | rfl) (by first | rfl | decide) (by first | size_fits | exact Nat.le_of_ble_eq_true rfl) ?_; intro g')))
  k_with "CompRestT" => (refine stop_out ?_)
  k_with "TurnT" => (refine TurnT.mk (by first | exact fun _ h => h | lcg_sub) ?_ (by first | exact StrIs.mk | exact IntIs.mk (by first | rfl | decide | omega)); (try dsimp only); first | assumption | (with_unfolding_all exact decide_eq_true (by assumption)) | (simp_all; done))
  k_with "TurnF" => (refine TurnF.mk (by first | exact fun _ h => h | lcg_sub) ?_; (try dsimp only); first | assumption | (with_unfolding_all exact decide_eq_false (by assumption)) | (simp_all; done))
  k_with "eval ListComp" => (k_here; (with_reducible show wpAny _ _ (eval (Expr.ListComp _ _ _ _) _) _ _ _); first | (lct_look; lcg_calm; k_dflt (refine LCt.ListComp_T (F₀ := by k_asm) (by with_unfolding_all rfl) (by decide) (by rfl) (by decide) (by rfl) ?_); k_dflt lct_toSrc) | (lcf_look; lcg_calm; k_dflt (refine LCg.ListComp_U (F₀ := by k_asm) (by with_unfolding_all rfl) (by decide) (by rfl) (by decide) (by rfl) ?_); k_dflt lcg_toSrc) | (lcg_look; lcg_calm; k_dflt (refine LCg.ListComp_U (F₀ := by k_asm) (by rfl) (by decide) (by rfl) (by decide) (by rfl) ?_); k_dflt lcg_toSrc))
  k_with "binaryOp Mult ref int" => (k_here; (with_reducible show wpAny _ _ (binaryOp Operator.Mult (Value.ref _) (Value.int _ _)) _ _ _); k_dflt (refine' KMa.mul ?F ?N ?l ?lo ?hi ?z ?e ?_; (case F => k_asm); (case N => k_asm); (case l => is_list); (case lo => first | omega | decide); (case hi => first | omega | decide); (case z => (simp only [List.length_cons, List.length_nil]; decide)); (case e => (simp only [Int.sub_zero, Int.sub_self, Int.reduceSub, Int.reduceToNat, Int.toNat_zero, List.replicate_succ, List.replicate_zero, List.flatten_cons, List.flatten_nil, List.cons_append, List.nil_append, List.append_nil]; first | done | exact rfl)); k_whole); intro D' h' F' N' l1; (try k_lt l1); (try k_sweep))
  k_with "CompRest" => (refine stop_out ?_)
  k_with "CompEnd" => k_dflt (first | (refine LCg.CompEnd.intro (by assumption) (by assumption) _ (fun _ h => h) (by assumption) (by lcg_src) ?_) | (refine LCg.CompEnd.intro (by assumption) (by assumption) _ (fun _ h => List.Mem.tail _ h) (by assumption) (by lcg_src) ?_))
  k_with "TurnV" => (refine TurnV.mk (fun _ h => h) (by first | exact StrIs.mk | exact IntIs.mk (by first | rfl | decide | omega) | rfl))
  k_with "FinE" => ((unfold LCg.FinE); intro D' h' tk' F' N' o1'; (replace o1' := off1H o1'); (try simp only [List.nil_append, List.cons_append] at N'); (try simp only [List.nil_append, List.cons_append] at o1'); (try dsimp only))
  k_with "FinA" => ((unfold LCg.FinA); intro D' h' tk' F' N' o1'; (replace o1' := off1H o1'); (try simp only [List.nil_append, List.cons_append] at N'); (try simp only [List.nil_append, List.cons_append] at o1'); (try dsimp only))
  k_with "subscriptTail Name Name ref int" => (k_here; (with_reducible show wpAny _ _ (subscriptTail _ _ (Value.ref _) (Value.int _ _)) _ _ _); k_dflt (refine' item_led ?N ?m ?a ?b ?x ?_; (case N => k_asm); (case m => k_mem); (case a => decide); (case b => decide); (case x => exact rfl)))
  k_with "subscriptTail Name Constant ref int" => (k_here; (with_reducible show wpAny _ _ (subscriptTail _ _ (Value.ref _) (Value.int _ _)) _ _ _); k_dflt (refine' item_led ?N ?m ?a ?b ?x ?_; (case N => k_asm); (case m => k_mem); (case a => decide); (case b => decide); (case x => exact rfl)))
  k_with "subscriptTail Name BinOp ref int" => (k_here; (with_reducible show wpAny _ _ (subscriptTail _ _ (Value.ref _) (Value.int _ _)) _ _ _); k_dflt (refine' item_led ?N ?m ?a ?b ?x ?_; (case N => k_asm); (case m => k_mem); (case a => decide); (case b => decide); (case x => exact rfl)))
  k_with "eval Name" => (k_here; (with_reducible show wpAny _ _ (eval (Expr.Name _ _) (compEnvC _ _ _ _)) _ _ _); k_dflt (first | (refine' lcf_cell ?N ?c ?m ?d ?_ ?a ?b; (case b => exact rfl); (case a => exact rfl); (case N => k_asm); (case c => exact rfl); (case m => k_mem); (case d => k_asm)) | (refine' LCgL.ld_own ?N ?m ?h ?x ?_ ?a ?b; (case b => exact rfl); (case a => exact rfl); (case N => k_asm); (case x => with_reducible assumption); (case m => k_mem); (case h => with_reducible assumption))))
  k_with "SegE" => (refine stop_out ?_)
  k_with "CompSrc" => (k_here; k_dflt (refine LCg.CompSrc.range (n := 4) (by rfl) (by k_asm) (by k_asm) (by assumption) (by first | decide | rfl) (by first | rfl | decide) (by first | size_fits | exact Nat.le_of_ble_eq_true rfl) ?_; intro g'))
  k_with "call ref" => (k_here; (with_reducible show wpAny _ _ (call (Value.ref 151) _ _) _ _ _); k_dflt (refine' use_ctr (c_told _ _ _ _ _ _ _ _ _ _ _ ?hc _ _ _ _ _ _ _ _ ?p0 ?p1 ?p2 ?p3 _ ?m1 ?m2) ?k1 ?k2 ?k3 ?k4 ?k5 ?kK ?kd ?ku ?_; (case k1 => k_asm); (case k2 => k_asm); (case k3 => k_asm); (case k4 => k_asm); (case k5 => k_asm); (case m1 => k_mem); (case m2 => k_mem); (case kK => first | exact rfl | assumption); (case kd => first | ktr_room | decide +kernel); (case ku => first | ktr_units | decide +kernel); (case hc => decide); (case p0 => assumption); (case p1 => assumption); (case p2 => assumption); (case p3 => assumption); (intro t7 h7 tk7 gens7 A7 F7 N7; (try dsimp only))))
  k_with "call ref" => (k_here; (with_reducible show wpAny _ _ (call (Value.ref 156) _ _) _ _ _); k_dflt (refine' use_ctr (c_due _ _ ?h0 ?h1 _ _ _ _ _ _ _ _ _ _ _ ?p0 ?p1 ?p2 ?p3 _ ?m1) ?k1 ?k2 ?k3 ?k4 ?k5 ?kK ?kd ?ku ?_; (case k1 => k_asm); (case k2 => k_asm); (case k3 => k_asm); (case k4 => k_asm); (case k5 => k_asm); (case m1 => k_mem); (case kK => first | exact rfl | assumption); (case kd => first | ktr_room | decide +kernel); (case ku => first | ktr_units | decide +kernel); (case h0 => assumption); (case h1 => assumption); (case p0 => assumption); (case p1 => assumption); (case p2 => assumption); (case p3 => assumption); (intro t9 h9 tk9 F9 N9; (try dsimp only))))
  delta SegBd PG lo; k_fill
  intro X T B'
  refine' cellAt_of ?ho ?_
  case ho => k_is
  intro E
  refine LD.each ?_
  intro h' tk' gens' m' o4 o5 o6 o7 bare hm F' N' e4 e5 e6 e7 off
  dsimp only [nthS, forBody]
  have hm1 := hm.1; have hm2 := hm.2
  replace F' := fr_known2G F' hm1 hm2
  k_steps
  all_goals (refine stop_in ?_)
  · exfalso
    rename _ = true => hne
    rw [hTold] at hne
    simp at hne
  all_goals (
    (try refine stop_in ?_)
    (try dsimp only)
    exact ⟨rfl, LD.mk (fun q => (by assumption : AllBare _ → AllBare _) (bare q)) (by k_asm) ⟨by rfl, by rfl⟩ (by k_asm) (by k_mem) (by k_mem) (by k_mem) (by k_mem) (by assumption) (by assumption) (by assumption) (by assumption) (by lcg_sub) (by repeat' (first | with_reducible assumption | exact off4_sub (by with_reducible assumption) (by lcg_sub) | exact off7_sub4 (by with_reducible assumption) (by lcg_sub) | exact off4_nil | refine off4_consO (by with_reducible assumption) (by k_mem) ?_ | refine off4_cons (by first | with_reducible assumption | exact off1H_at (by with_reducible assumption) (by k_mem)) (by first | with_reducible assumption | exact off1H_at (by with_reducible assumption) (by k_mem)) (by first | with_reducible assumption | exact off1H_at (by with_reducible assumption) (by k_mem)) (by first | with_reducible assumption | exact off1H_at (by with_reducible assumption) (by k_mem)) ?_))⟩)
  k_with_none
end

section
set_option maxHeartbeats 0 in
theorem segB2 (w : World) (mean : ExcName → Option Value) (mg mb : Str → Option Value) (s : Shared) (L' : Addr) (x l : Int) (h0 : 0 ≤ l) (h1 : l < 16) (tm tl : Tok) (IT : Addr) (oI : Obj) (lr nr : Nat) (v6 : Option Value) (lv : Int) (tv : Tok) (p0 p1 p2 p3 : Str) (v0 v1 v2 v3 : Tok) (lp np : Nat) (hp0 : p0.length < 10) (hp1 : p1.length < 10) (hp2 : p2.length < 10) (hp3 : p3.length < 10) (hOpen : (cnt4 (ring0 l) (ring1 l) (ring2 l) (ring3 l)).fmod 2 = 1 → (ring0 l || ring1 l || ring2 l || ring3 l) = true ∧ toldF (ring0 l) (ring1 l) (ring2 l) (ring3 l) (Str.ofString "") p0 p1 p2 p3 = openF l (ring1 l) (ring2 l) (ring3 l) p0 p1 p2 p3) :
    SegBd w mean mg mb s L' 2 (LD s L' (fun m => m (Str.ofString "left") = some (.int l tl) ∧ m (Str.ofString "moves") = some (.int x tm)) (some (.ref lp)) (some (.ref lr)) v6 (some (.int lv tv)) [(IT, oI), (lr, listOf [.bool (ring0 l), .bool (ring1 l), .bool (ring2 l), .bool (ring3 l)].toArray nr), (lp, listOf [.str p0 v0, .str p1 v1, .str p2 v2, .str p3 v3].toArray np)]) (LD s L' (fun m => m (Str.ofString "left") = some (.int l tl) ∧ m (Str.ofString "moves") = some (.int x tm)) (some (.ref lp)) (some (.ref lr)) v6 (some (.int lv tv)) [(IT, oI), (lr, listOf [.bool (ring0 l), .bool (ring1 l), .bool (ring2 l), .bool (ring3 l)].toArray nr), (lp, listOf [.str p0 v0, .str p1 v1, .str p2 v2, .str p3 v3].toArray np)]) := by
  k_with "LeaveK" => (k_dflt (refine' leaveM ?hM ?hN ?G ?k1 ?k2 ?sub ?_; (case G => assumption); (case hM => assumption); (case hN => assumption); (case k1 => k_asm); (case k2 => k_asm); (case sub => lcg_sub)); intro kF kN kM; (try dsimp only))
  k_with "CompSrcT" => (k_here; k_dflt (first | (refine LCt.CompSrcT.range (n := 4) (by rfl) (by k_asm) (by k_asm) (by assumption) (by first | decide | rfl) (by first | rfl | decide) (by first | size_fits | exact Nat.le_of_ble_eq_true rfl) ?_; intro g') | (refine LCt.CompSrcT.range (n := 3) (by rfl) (by k_asm) (by k_asm) (by assumption) (by first | decide | rfl) (by first | rfl | decide) (by first | size_fits | exact Nat.le_of_ble_eq_true rfl) ?_; intro g') | (refine LCt.CompSrcT.range (n := 2) (by rfl) (by k_asm) (by k_asm) (by assumption) (by first | decide | rfl) (by first | rfl | decide) (by first | size_fits | exact Nat.le_of_ble_eq_true rfl) ?_; intro g') | (refine LCt.CompSrcT.range (n := 1) (by rfl) (by k_asm) (by k_asm) (by assumption) (by first | decide | rfl) (by first | rfl | decide) (by first | size_fits | exact Nat.le_of_ble_eq_true rfl) ?_; intro g') | (refine LCt.CompSrcT.range (n := 0) (by rfl) (by k_asm) (by k_asm) (by assumption) (by first | decide | rfl) (by first | rfl | decide) (by first | size_fits | exact Nat.le_of_ble_eq_true rfl) ?_; intro g')))
  k_with "CompRestT" => (refine stop_out ?_)
  k_with "TurnT" => (refine TurnT.mk (by first | exact fun _ h => h | lcg_sub) ?_ (by first | exact StrIs.mk | exact IntIs.mk (by first | rfl | decide | omega)); (try dsimp only); first | assumption | (with_unfolding_all exact decide_eq_true (by assumption)) | (simp_all; done))
  k_with "TurnF" => (refine TurnF.mk (by first | exact fun _ h => h | lcg_sub) ?_; (try dsimp only); first | assumption | (with_unfolding_all exact decide_eq_false (by assumption)) | (simp_all; done))
  k_with "eval ListComp" => (k_here; (with_reducible show wpAny _ _ (eval (Expr.ListComp _ _ _ _) _) _ _ _); first | (lct_look; lcg_calm; k_dflt (refine LCt.ListComp_T (F₀ := by k_asm) (by with_unfolding_all rfl) (by decide) (by rfl) (by decide) (by rfl) ?_); k_dflt lct_toSrc) | (lcf_look; lcg_calm; k_dflt (refine LCg.ListComp_U (F₀ := by k_asm) (by with_unfolding_all rfl) (by decide) (by rfl) (by decide) (by rfl) ?_); k_dflt lcg_toSrc) | (lcg_look; lcg_calm; k_dflt (refine LCg.ListComp_U (F₀ := by k_asm) (by rfl) (by decide) (by rfl) (by decide) (by rfl) ?_); k_dflt lcg_toSrc))
  k_with "binaryOp Mult ref int" => (k_here; (with_reducible show wpAny _ _ (binaryOp Operator.Mult (Value.ref _) (Value.int _ _)) _ _ _); k_dflt (refine' KMa.mul ?F ?N ?l ?lo ?hi ?z ?e ?_; (case F => k_asm); (case N => k_asm); (case l => is_list); (case lo => first | omega | decide); (case hi => first | omega | decide); (case z => (simp only [List.length_cons, List.length_nil]; decide)); (case e => (simp only [Int.sub_zero, Int.sub_self, Int.reduceSub, Int.reduceToNat, Int.toNat_zero, List.replicate_succ, List.replicate_zero, List.flatten_cons, List.flatten_nil, List.cons_append, List.nil_append, List.append_nil]; first | done | exact rfl)); k_whole); intro D' h' F' N' l1; (try k_lt l1); (try k_sweep))
  k_with "CompRest" => (refine stop_out ?_)
  k_with "CompEnd" => k_dflt (first | (refine LCg.CompEnd.intro (by assumption) (by assumption) _ (fun _ h => h) (by assumption) (by lcg_src) ?_) | (refine LCg.CompEnd.intro (by assumption) (by assumption) _ (fun _ h => List.Mem.tail _ h) (by assumption) (by lcg_src) ?_))
  k_with "TurnV" => (refine TurnV.mk (fun _ h => h) (by first | exact StrIs.mk | exact IntIs.mk (by first | rfl | decide | omega) | rfl))
  k_with "FinE" => ((unfold LCg.FinE); intro D' h' tk' F' N' o1'; (replace o1' := off1H o1'); (try simp only [List.nil_append, List.cons_append] at N'); (try simp only [List.nil_append, List.cons_append] at o1'); (try dsimp only))
  k_with "FinA" => ((unfold LCg.FinA); intro D' h' tk' F' N' o1'; (replace o1' := off1H o1'); (try simp only [List.nil_append, List.cons_append] at N'); (try simp only [List.nil_append, List.cons_append] at o1'); (try dsimp only))
  k_with "subscriptTail Name Name ref int" => (k_here; (with_reducible show wpAny _ _ (subscriptTail _ _ (Value.ref _) (Value.int _ _)) _ _ _); k_dflt (refine' item_led ?N ?m ?a ?b ?x ?_; (case N => k_asm); (case m => k_mem); (case a => decide); (case b => decide); (case x => exact rfl)))
  k_with "subscriptTail Name Constant ref int" => (k_here; (with_reducible show wpAny _ _ (subscriptTail _ _ (Value.ref _) (Value.int _ _)) _ _ _); k_dflt (refine' item_led ?N ?m ?a ?b ?x ?_; (case N => k_asm); (case m => k_mem); (case a => decide); (case b => decide); (case x => exact rfl)))
  k_with "subscriptTail Name BinOp ref int" => (k_here; (with_reducible show wpAny _ _ (subscriptTail _ _ (Value.ref _) (Value.int _ _)) _ _ _); k_dflt (refine' item_led ?N ?m ?a ?b ?x ?_; (case N => k_asm); (case m => k_mem); (case a => decide); (case b => decide); (case x => exact rfl)))
  k_with "eval Name" => (k_here; (with_reducible show wpAny _ _ (eval (Expr.Name _ _) (compEnvC _ _ _ _)) _ _ _); k_dflt (first | (refine' lcf_cell ?N ?c ?m ?d ?_ ?a ?b; (case b => exact rfl); (case a => exact rfl); (case N => k_asm); (case c => exact rfl); (case m => k_mem); (case d => k_asm)) | (refine' LCgL.ld_own ?N ?m ?h ?x ?_ ?a ?b; (case b => exact rfl); (case a => exact rfl); (case N => k_asm); (case x => with_reducible assumption); (case m => k_mem); (case h => with_reducible assumption))))
  k_with "SegE" => (refine stop_out ?_)
  k_with "CompSrc" => (k_here; k_dflt (refine LCg.CompSrc.range (n := 4) (by rfl) (by k_asm) (by k_asm) (by assumption) (by first | decide | rfl) (by first | rfl | decide) (by first | size_fits | exact Nat.le_of_ble_eq_true rfl) ?_; intro g'))
  k_with "call ref" => (k_here; (with_reducible show wpAny _ _ (call (Value.ref 151) _ _) _ _ _); k_dflt (refine' use_ctr (c_told _ _ _ _ _ _ _ _ _ _ _ ?hc _ _ _ _ _ _ _ _ ?p0 ?p1 ?p2 ?p3 _ ?m1 ?m2) ?k1 ?k2 ?k3 ?k4 ?k5 ?kK ?kd ?ku ?_; (case k1 => k_asm); (case k2 => k_asm); (case k3 => k_asm); (case k4 => k_asm); (case k5 => k_asm); (case m1 => k_mem); (case m2 => k_mem); (case kK => first | exact rfl | assumption); (case kd => first | ktr_room | decide +kernel); (case ku => first | ktr_units | decide +kernel); (case hc => decide); (case p0 => assumption); (case p1 => assumption); (case p2 => assumption); (case p3 => assumption); (intro t7 h7 tk7 gens7 A7 F7 N7; (try dsimp only))))
  k_with "call ref" => (k_here; (with_reducible show wpAny _ _ (call (Value.ref 161) _ _) _ _ _); k_dflt (refine' use_ctr (c_open _ _ ?h0 ?h1 _ _ _ _ _ _ _ _ _ ?hb _ _ _ _ _ _ _ _ ?p0 ?p1 ?p2 ?p3 _ ?m1 ?m2) ?k1 ?k2 ?k3 ?k4 ?k5 ?kK ?kd ?ku ?_; (case k1 => k_asm); (case k2 => k_asm); (case k3 => k_asm); (case k4 => k_asm); (case k5 => k_asm); (case m1 => k_mem); (case m2 => k_mem); (case kK => first | exact rfl | assumption); (case kd => first | ktr_room | decide +kernel); (case ku => first | ktr_units | decide +kernel); (case h0 => assumption); (case h1 => assumption); (case hb => assumption); (case p0 => assumption); (case p1 => assumption); (case p2 => assumption); (case p3 => assumption); (intro t9 h9 tk9 F9 N9; (try dsimp only))))
  k_with "call builtin:sum" => (refine stop_out ?_)
  delta SegBd PG lo; k_fill
  intro X T B'
  refine' cellAt_of ?ho ?_
  case ho => k_is
  intro E
  refine LD.each ?_
  intro h' tk' gens' m' o4 o5 o6 o7 bare hm F' N' e4 e5 e6 e7 off
  dsimp only [nthS, forBody]
  have hm1 := hm.1; have hm2 := hm.2
  replace F' := fr_known2G F' hm1 hm2
  k_steps
  refine stop_in ?_
  refine sum_bools (bs := [ring0 l, ring1 l, ring2 l, ring3 l]) rfl (by k_asm) (by k_asm) (by is_list) ?_
  intro h9 tk9 u9 F9 N9
  rw [show preSum (fun i => if [ring0 l, ring1 l, ring2 l, ring3 l].getD i false = true then 1 else 0) [ring0 l, ring1 l, ring2 l, ring3 l].length = cnt4 (ring0 l) (ring1 l) (ring2 l) (ring3 l) from rfl]
  by_cases hodd : (cnt4 (ring0 l) (ring1 l) (ring2 l) (ring3 l)).fmod 2 = 1
  · obtain ⟨hb, hO⟩ := hOpen hodd
    k_steps
    all_goals (try refine stop_in ?_)
    · exfalso
      rename _ = true => hne
      rw [hO] at hne
      simp at hne
    · exact ⟨rfl, LD.mk (fun q => (by assumption : AllBare _ → AllBare _) (bare q)) (by k_asm) ⟨by rfl, by rfl⟩ (by k_asm) (by k_mem) (by k_mem) (by k_mem) (by k_mem) (by assumption) (by assumption) (by assumption) (by assumption) (by lcg_sub) (by repeat' (first | with_reducible assumption | exact off4_sub (by with_reducible assumption) (by lcg_sub) | exact off7_sub4 (by with_reducible assumption) (by lcg_sub) | exact off4_nil | refine off4_consO (by with_reducible assumption) (by k_mem) ?_ | refine off4_cons (by first | with_reducible assumption | exact off1H_at (by with_reducible assumption) (by k_mem)) (by first | with_reducible assumption | exact off1H_at (by with_reducible assumption) (by k_mem)) (by first | with_reducible assumption | exact off1H_at (by with_reducible assumption) (by k_mem)) (by first | with_reducible assumption | exact off1H_at (by with_reducible assumption) (by k_mem)) ?_))⟩
    · exfalso
      rename _ ≠ (_ : Int) => hne
      exact hne hodd
  · obtain ⟨c, hc⟩ : ∃ c, cnt4 (ring0 l) (ring1 l) (ring2 l) (ring3 l) = c := ⟨_, rfl⟩
    have hr := cnt4_rng (ring0 l) (ring1 l) (ring2 l) (ring3 l)
    rw [hc] at hodd hr ⊢
    have hcc : c = 0 ∨ c = 2 ∨ c = 4 := by
      obtain ⟨r1, r2⟩ := hr
      have : c = 0 ∨ c = 1 ∨ c = 2 ∨ c = 3 ∨ c = 4 := by omega
      rcases this with rfl | rfl | rfl | rfl | rfl
      · exact .inl rfl
      · exact absurd rfl hodd
      · exact .inr (.inl rfl)
      · exact absurd rfl hodd
      · exact .inr (.inr rfl)
    clear hc hodd hr hOpen
    rcases hcc with rfl | rfl | rfl
    all_goals (
      k_steps
      (try refine stop_in ?_)
      (try dsimp only)
      exact ⟨rfl, LD.mk bare (by k_asm) ⟨by rfl, by rfl⟩ (by k_asm) (by k_mem) (by k_mem) (by k_mem) (by k_mem) (by assumption) (by assumption) (by assumption) (by assumption) (by lcg_sub) (by repeat' (first | with_reducible assumption | exact off4_sub (by with_reducible assumption) (by lcg_sub) | exact off7_sub4 (by with_reducible assumption) (by lcg_sub) | exact off4_nil | refine off4_consO (by with_reducible assumption) (by k_mem) ?_ | refine off4_cons (by first | with_reducible assumption | exact off1H_at (by with_reducible assumption) (by k_mem)) (by first | with_reducible assumption | exact off1H_at (by with_reducible assumption) (by k_mem)) (by first | with_reducible assumption | exact off1H_at (by with_reducible assumption) (by k_mem)) (by first | with_reducible assumption | exact off1H_at (by with_reducible assumption) (by k_mem)) ?_))⟩)
  k_with_none
end

section
set_option maxHeartbeats 0 in
theorem segB3 (w : World) (mean : ExcName → Option Value) (mg mb : Str → Option Value) (s : Shared) (L' : Addr) (x l : Int) (h0 : 0 ≤ l) (h1 : l < 16) (tm tl : Tok) (IT : Addr) (oI : Obj) (lr nr : Nat) (v6 : Option Value) (lv : Int) (tv : Tok) (p0 p1 p2 p3 : Str) (v0 v1 v2 v3 : Tok) (lp np : Nat) (hp0 : p0.length < 10) (hp1 : p1.length < 10) (hp2 : p2.length < 10) (hp3 : p3.length < 10) (c0 c1 c2 c3 : Nat) (q0 : 0 < p0.length) (q1 : 0 < p1.length) (q2 : 0 < p2.length) (q3 : 0 < p3.length) (i0 : Txt.item p0 0 = ⟨#[c0]⟩) (i1 : Txt.item p1 0 = ⟨#[c1]⟩) (i2 : Txt.item p2 0 = ⟨#[c2]⟩) (i3 : Txt.item p3 0 = ⟨#[c3]⟩) (e0 e1 e2 e3 : Nat) (u0 : Txt.upper ⟨#[c0]⟩ = ⟨#[e0]⟩) (u1 : Txt.upper ⟨#[c1]⟩ = ⟨#[e1]⟩) (u2 : Txt.upper ⟨#[c2]⟩ = ⟨#[e2]⟩) (u3 : Txt.upper ⟨#[c3]⟩ = ⟨#[e3]⟩) :
    SegBd w mean mg mb s L' 3 (LD s L' (fun m => m (Str.ofString "left") = some (.int l tl) ∧ m (Str.ofString "moves") = some (.int x tm)) (some (.ref lp)) (some (.ref lr)) v6 (some (.int lv tv)) [(IT, oI), (lr, listOf [.bool (ring0 l), .bool (ring1 l), .bool (ring2 l), .bool (ring3 l)].toArray nr), (lp, listOf [.str p0 v0, .str p1 v1, .str p2 v2, .str p3 v3].toArray np)]) (fun s₂ => ∃ tw, LD s L' (fun m => m (Str.ofString "word") = some (.str ⟨#[wc (ring0 l) c0 e0, wc (ring1 l) c1 e1, wc (ring2 l) c2 e2, wc (ring3 l) c3 e3]⟩ tw) ∧ m (Str.ofString "left") = some (.int l tl) ∧ m (Str.ofString "moves") = some (.int x tm)) (some (.ref lp)) (some (.ref lr)) v6 (some (.int lv tv)) [(IT, oI), (lr, listOf [.bool (ring0 l), .bool (ring1 l), .bool (ring2 l), .bool (ring3 l)].toArray nr), (lp, listOf [.str p0 v0, .str p1 v1, .str p2 v2, .str p3 v3].toArray np)] s₂) := by
  k_with "LeaveK" => (k_dflt (refine' leaveM ?hM ?hN ?G ?k1 ?k2 ?sub ?_; (case G => assumption); (case hM => assumption); (case hN => assumption); (case k1 => k_asm); (case k2 => k_asm); (case sub => lcg_sub)); intro kF kN kM; (try dsimp only))
  k_with "CompSrcT" => (k_here; k_dflt (first | (refine LCt.CompSrcT.range (n := 4) (by rfl) (by k_asm) (by k_asm) (by assumption) (by first | decide | rfl) (by first | rfl | decide) (by first | size_fits | exact Nat.le_of_ble_eq_true rfl) ?_; intro g') | (refine LCt.CompSrcT.range (n := 3) (by rfl) (by k_asm) (by k_asm) (by assumption) (by first | decide | rfl) (by first | rfl | decide) (by first | size_fits | exact Nat.le_of_ble_eq_true rfl) ?_; intro g') | (refine LCt.CompSrcT.range (n := 2) (by rfl) (by k_asm) (by k_asm) (by assumption) (by first | decide | rfl) (by first | rfl | decide) (by first | size_fits | exact Nat.le_of_ble_eq_true rfl) ?_; intro g') | (refine LCt.CompSrcT.range (n := 1) (by rfl) (by k_asm) (by k_asm) (by assumption) (by first | decide | rfl) (by first | rfl | decide) (by first | size_fits | exact Nat.le_of_ble_eq_true rfl) ?_; intro g') | (refine LCt.CompSrcT.range (n := 0) (by rfl) (by k_asm) (by k_asm) (by assumption) (by first | decide | rfl) (by first | rfl | decide) (by first | size_fits | exact Nat.le_of_ble_eq_true rfl) ?_; intro g')))
  k_with "CompRestT" => (refine stop_out ?_)
  k_with "TurnT" => (refine TurnT.mk (by first | exact fun _ h => h | lcg_sub) ?_ (by first | exact StrIs.mk | exact IntIs.mk (by first | rfl | decide | omega)); (try dsimp only); first | assumption | (with_unfolding_all exact decide_eq_true (by assumption)) | (simp_all; done))
  k_with "TurnF" => (refine TurnF.mk (by first | exact fun _ h => h | lcg_sub) ?_; (try dsimp only); first | assumption | (with_unfolding_all exact decide_eq_false (by assumption)) | (simp_all; done))
  k_with "eval ListComp" => (k_here; (with_reducible show wpAny _ _ (eval (Expr.ListComp _ _ _ _) _) _ _ _); first | (lct_look; lcg_calm; k_dflt (refine LCt.ListComp_T (F₀ := by k_asm) (by with_unfolding_all rfl) (by decide) (by rfl) (by decide) (by rfl) ?_); k_dflt lct_toSrc) | (lcf_look; lcg_calm; k_dflt (refine LCg.ListComp_U (F₀ := by k_asm) (by with_unfolding_all rfl) (by decide) (by rfl) (by decide) (by rfl) ?_); k_dflt lcg_toSrc) | (lcg_look; lcg_calm; k_dflt (refine LCg.ListComp_U (F₀ := by k_asm) (by rfl) (by decide) (by rfl) (by decide) (by rfl) ?_); k_dflt lcg_toSrc))
  k_with "binaryOp Mult ref int" => (k_here; (with_reducible show wpAny _ _ (binaryOp Operator.Mult (Value.ref _) (Value.int _ _)) _ _ _); k_dflt (refine' KMa.mul ?F ?N ?l ?lo ?hi ?z ?e ?_; (case F => k_asm); (case N => k_asm); (case l => is_list); (case lo => first | omega | decide); (case hi => first | omega | decide); (case z => (simp only [List.length_cons, List.length_nil]; decide)); (case e => (simp only [Int.sub_zero, Int.sub_self, Int.reduceSub, Int.reduceToNat, Int.toNat_zero, List.replicate_succ, List.replicate_zero, List.flatten_cons, List.flatten_nil, List.cons_append, List.nil_append, List.append_nil]; first | done | exact rfl)); k_whole); intro D' h' F' N' l1; (try k_lt l1); (try k_sweep))
  k_with "CompRest" => (refine stop_out ?_)
  k_with "CompEnd" => k_dflt (first | (refine LCg.CompEnd.intro (by assumption) (by assumption) _ (fun _ h => h) (by assumption) (by lcg_src) ?_) | (refine LCg.CompEnd.intro (by assumption) (by assumption) _ (fun _ h => List.Mem.tail _ h) (by assumption) (by lcg_src) ?_))
  k_with "TurnV" => (refine TurnV.mk (fun _ h => h) (by first | exact StrIs.mk | exact IntIs.mk (by first | rfl | decide | omega) | rfl))
  k_with "FinE" => ((unfold LCg.FinE); intro D' h' tk' F' N' o1'; (replace o1' := off1H o1'); (try simp only [List.nil_append, List.cons_append] at N'); (try simp only [List.nil_append, List.cons_append] at o1'); (try dsimp only))
  k_with "FinA" => ((unfold LCg.FinA); intro D' h' tk' F' N' o1'; (replace o1' := off1H o1'); (try simp only [List.nil_append, List.cons_append] at N'); (try simp only [List.nil_append, List.cons_append] at o1'); (try dsimp only))
  k_with "subscriptTail Name Name ref int" => (k_here; (with_reducible show wpAny _ _ (subscriptTail _ _ (Value.ref _) (Value.int _ _)) _ _ _); k_dflt (refine' item_led ?N ?m ?a ?b ?x ?_; (case N => k_asm); (case m => k_mem); (case a => decide); (case b => decide); (case x => exact rfl)))
  k_with "subscriptTail Name Constant ref int" => (k_here; (with_reducible show wpAny _ _ (subscriptTail _ _ (Value.ref _) (Value.int _ _)) _ _ _); k_dflt (refine' item_led ?N ?m ?a ?b ?x ?_; (case N => k_asm); (case m => k_mem); (case a => decide); (case b => decide); (case x => exact rfl)))
  k_with "subscriptTail Name BinOp ref int" => (k_here; (with_reducible show wpAny _ _ (subscriptTail _ _ (Value.ref _) (Value.int _ _)) _ _ _); k_dflt (refine' item_led ?N ?m ?a ?b ?x ?_; (case N => k_asm); (case m => k_mem); (case a => decide); (case b => decide); (case x => exact rfl)))
  k_with "eval Name" => (k_here; (with_reducible show wpAny _ _ (eval (Expr.Name _ _) (compEnvC _ _ _ _)) _ _ _); k_dflt (first | (refine' lcf_cell ?N ?c ?m ?d ?_ ?a ?b; (case b => exact rfl); (case a => exact rfl); (case N => k_asm); (case c => exact rfl); (case m => k_mem); (case d => k_asm)) | (refine' LCgL.ld_own ?N ?m ?h ?x ?_ ?a ?b; (case b => exact rfl); (case a => exact rfl); (case N => k_asm); (case x => with_reducible assumption); (case m => k_mem); (case h => with_reducible assumption))))
  k_with "SegE" => (refine stop_out ?_)
  k_with "CompSrc" => (k_here; k_dflt (refine LCg.CompSrc.range (n := 4) (by rfl) (by k_asm) (by k_asm) (by assumption) (by first | decide | rfl) (by first | rfl | decide) (by first | size_fits | exact Nat.le_of_ble_eq_true rfl) ?_; intro g'))
  k_with "JS" => exact ⟨_, _, rfl, rfl⟩
  k_with "ite" => ((with_reducible show ite (_ = true) (wpAny _ _ (eval (Expr.Call _ _ _ _) _) _ _ _) (wpAny _ _ (eval (Expr.Subscript _ _ _) _) _ _ _)); refine stop_out ?_)
  k_with "itex" => ((with_reducible show ite (_ = true) (wpAny _ _ (eval (Expr.Call _ _ _ _) _) _ _ _) (wpAny _ _ (eval (Expr.Subscript _ _ _) _) _ _ _)); k_dflt (refine' join_str ?a1 ?a2 ?_); (case a1 => (intro hc9; k_steps; (try exact ⟨_, _, rfl, rfl⟩); done)); (case a2 => (intro hc9; k_steps; (try exact ⟨_, _, rfl, rfl⟩); done)); intro t9 tk9; (try dsimp only))
  k_with "TurnV" => (refine stop_out ?_)
  delta SegBd PG lo; k_fill
  intro X T B'
  refine' cellAt_of ?ho ?_
  case ho => k_is
  intro E
  refine LD.each ?_
  intro h' tk' gens' m' o4 o5 o6 o7 bare hm F' N' e4 e5 e6 e7 off
  dsimp only [nthS, forBody]
  have hm1 := hm.1; have hm2 := hm.2
  replace F' := fr_known2G F' hm1 hm2
  k_steps
  refine stop_in ?_
  refine restU [StrIs ⟨#[wc (ring0 l) c0 e0]⟩, StrIs ⟨#[wc (ring1 l) c1 e1]⟩, StrIs ⟨#[wc (ring2 l) c2 e2]⟩, StrIs ⟨#[wc (ring3 l) c3 e3]⟩] _ rfl (by lcg_src) ⟨?_, ?_, ?_, ?_, trivial⟩ ?_
  · (intro v' I' oI' C' oC' D' m₂' h' tk' E' ys' hv' hC' hx' F' N' off' ne'; (first | lcg_open hv' | (obtain ⟨t9', hv9'⟩ := hv'; subst hv9')); (try dsimp only); k_steps; refine stop_in ?_; walk_at "itex"; k_steps; refine stop_in ?_; exact TurnV.mk (fun _ h => h) (by rw [← wl_is i0 u0]; exact StrIs.mk))
  · (intro v' I' oI' C' oC' D' m₂' h' tk' E' ys' hv' hC' hx' F' N' off' ne'; (first | lcg_open hv' | (obtain ⟨t9', hv9'⟩ := hv'; subst hv9')); (try dsimp only); k_steps; refine stop_in ?_; walk_at "itex"; k_steps; refine stop_in ?_; exact TurnV.mk (fun _ h => h) (by rw [← wl_is i1 u1]; exact StrIs.mk))
  · (intro v' I' oI' C' oC' D' m₂' h' tk' E' ys' hv' hC' hx' F' N' off' ne'; (first | lcg_open hv' | (obtain ⟨t9', hv9'⟩ := hv'; subst hv9')); (try dsimp only); k_steps; refine stop_in ?_; walk_at "itex"; k_steps; refine stop_in ?_; exact TurnV.mk (fun _ h => h) (by rw [← wl_is i2 u2]; exact StrIs.mk))
  · (intro v' I' oI' C' oC' D' m₂' h' tk' E' ys' hv' hC' hx' F' N' off' ne'; (first | lcg_open hv' | (obtain ⟨t9', hv9'⟩ := hv'; subst hv9')); (try dsimp only); k_steps; refine stop_in ?_; walk_at "itex"; k_steps; refine stop_in ?_; exact TurnV.mk (fun _ h => h) (by rw [← wl_is i3 u3]; exact StrIs.mk))
  intro ys9 hys9
  obtain ⟨y0, y1, y2, y3, rfl, ⟨_, rfl⟩, ⟨_, rfl⟩, ⟨_, rfl⟩, ⟨_, rfl⟩⟩ := hys9.four
  k_steps
  refine join_listW (ys := [⟨#[wc (ring0 l) c0 e0]⟩, ⟨#[wc (ring1 l) c1 e1]⟩, ⟨#[wc (ring2 l) c2 e2]⟩, ⟨#[wc (ring3 l) c3 e3]⟩]) (News.isList (by assumption) (by k_mem)) (.cons _ _ (.cons _ _ (.cons _ _ (.cons _ _ .nil)))) (by decide) (word_fit _ _ _ _) ?_
  rw [word_is]
  intro t9 k9
  k_steps
  all_goals (
    (try refine stop_in ?_)
    (try dsimp only)
    exact ⟨rfl, _, LD.mk bare (by k_asm) ⟨by rfl, by rfl, by rfl⟩ (by k_asm) (by k_mem) (by k_mem) (by k_mem) (by k_mem) (by assumption) (by assumption) (by assumption) (by assumption) (by lcg_sub) (by repeat' (first | with_reducible assumption | exact off4_sub (by with_reducible assumption) (by lcg_sub) | exact off7_sub4 (by with_reducible assumption) (by lcg_sub) | exact off4_nil | refine off4_consO (by with_reducible assumption) (by k_mem) ?_ | refine off4_cons (by first | with_reducible assumption | exact off1H_at (by with_reducible assumption) (by k_mem)) (by first | with_reducible assumption | exact off1H_at (by with_reducible assumption) (by k_mem)) (by first | with_reducible assumption | exact off1H_at (by with_reducible assumption) (by k_mem)) (by first | with_reducible assumption | exact off1H_at (by with_reducible assumption) (by k_mem)) ?_))⟩)
  k_with_none
end

section
set_option maxHeartbeats 0 in
theorem segB4 (w : World) (mean : ExcName → Option Value) (mg mb : Str → Option Value) (s : Shared) (L' : Addr) (x l : Int) (h0 : 0 ≤ l) (h1 : l < 16) (tm tl : Tok) (IT : Addr) (oI : Obj) (lr nr : Nat) (v6 : Option Value) (lv : Int) (tv : Tok) (p0 p1 p2 p3 : Str) (v0 v1 v2 v3 : Tok) (lp np : Nat) (hp0 : p0.length < 10) (hp1 : p1.length < 10) (hp2 : p2.length < 10) (hp3 : p3.length < 10) (W W0 : Str) (tw : Tok) (hW : W.length = 4) (hlow : Txt.lower W = W0) (hlev : ∀ (ta tb tc : Tok) (news : List (Addr × Obj)), Ctr w 20 150 127 [.str W ta, .str W0 tb, .int (cnt4 (ring0 l) (ring1 l) (ring2 l) (ring3 l)) tc] news (RetVal (fun t => .int (cnt4 (ring0 l) (ring1 l) (ring2 l) (ring3 l)) t) news)) :
    SegBd w mean mg mb s L' 4 (LD s L' (fun m => m (Str.ofString "word") = some (.str W tw) ∧ m (Str.ofString "left") = some (.int l tl) ∧ m (Str.ofString "moves") = some (.int x tm)) (some (.ref lp)) (some (.ref lr)) v6 (some (.int lv tv)) [(IT, oI), (lr, listOf [.bool (ring0 l), .bool (ring1 l), .bool (ring2 l), .bool (ring3 l)].toArray nr), (lp, listOf [.str p0 v0, .str p1 v1, .str p2 v2, .str p3 v3].toArray np)]) (LD s L' (fun m => m (Str.ofString "word") = some (.str W tw) ∧ m (Str.ofString "left") = some (.int l tl) ∧ m (Str.ofString "moves") = some (.int x tm)) (some (.ref lp)) (some (.ref lr)) v6 (some (.int lv tv)) [(IT, oI), (lr, listOf [.bool (ring0 l), .bool (ring1 l), .bool (ring2 l), .bool (ring3 l)].toArray nr), (lp, listOf [.str p0 v0, .str p1 v1, .str p2 v2, .str p3 v3].toArray np)]) := by
  k_with "LeaveK" => (k_dflt (refine' leaveM ?hM ?hN ?G ?k1 ?k2 ?sub ?_; (case G => assumption); (case hM => assumption); (case hN => assumption); (case k1 => k_asm); (case k2 => k_asm); (case sub => lcg_sub)); intro kF kN kM; (try dsimp only))
  k_with "CompSrcT" => (k_here; k_dflt (first | (refine LCt.CompSrcT.range (n := 4) (by rfl) (by k_asm) (by k_asm) (by assumption) (by first | decide | rfl) (by first | rfl | decide) (by first | size_fits | exact Nat.le_of_ble_eq_true rfl) ?_; intro g') | (refine LCt.CompSrcT.range (n := 3) (by rfl) (by k_asm) (by k_asm) (by assumption) (by first | decide | rfl) (by first | rfl | decide) (by first | size_fits | exact Nat.le_of_ble_eq_true rfl) ?_; intro g') | (refine LCt.CompSrcT.range (n := 2) (by rfl) (by k_asm) (by k_asm) (by assumption) (by first | decide | rfl) (by first | rfl | decide) (by first | size_fits | exact Nat.le_of_ble_eq_true rfl) ?_; intro g') | (refine LCt.CompSrcT.range (n := 1) (by rfl) (by k_asm) (by k_asm) (by assumption) (by first | decide | rfl) (by first | rfl | decide) (by first | size_fits | exact Nat.le_of_ble_eq_true rfl) ?_; intro g') | (refine LCt.CompSrcT.range (n := 0) (by rfl) (by k_asm) (by k_asm) (by assumption) (by first | decide | rfl) (by first | rfl | decide) (by first | size_fits | exact Nat.le_of_ble_eq_true rfl) ?_; intro g')))
  k_with "CompRestT" => (refine stop_out ?_)
  k_with "TurnT" => (refine TurnT.mk (by first | exact fun _ h => h | lcg_sub) ?_ (by first | exact StrIs.mk | exact IntIs.mk (by first | rfl | decide | omega)); (try dsimp only); first | assumption | (with_unfolding_all exact decide_eq_true (by assumption)) | (simp_all; done))
  k_with "TurnF" => (refine TurnF.mk (by first | exact fun _ h => h | lcg_sub) ?_; (try dsimp only); first | assumption | (with_unfolding_all exact decide_eq_false (by assumption)) | (simp_all; done))
  k_with "eval ListComp" => (k_here; (with_reducible show wpAny _ _ (eval (Expr.ListComp _ _ _ _) _) _ _ _); first | (lct_look; lcg_calm; k_dflt (refine LCt.ListComp_T (F₀ := by k_asm) (by with_unfolding_all rfl) (by decide) (by rfl) (by decide) (by rfl) ?_); k_dflt lct_toSrc) | (lcf_look; lcg_calm; k_dflt (refine LCg.ListComp_U (F₀ := by k_asm) (by with_unfolding_all rfl) (by decide) (by rfl) (by decide) (by rfl) ?_); k_dflt lcg_toSrc) | (lcg_look; lcg_calm; k_dflt (refine LCg.ListComp_U (F₀ := by k_asm) (by rfl) (by decide) (by rfl) (by decide) (by rfl) ?_); k_dflt lcg_toSrc))
  k_with "binaryOp Mult ref int" => (k_here; (with_reducible show wpAny _ _ (binaryOp Operator.Mult (Value.ref _) (Value.int _ _)) _ _ _); k_dflt (refine' KMa.mul ?F ?N ?l ?lo ?hi ?z ?e ?_; (case F => k_asm); (case N => k_asm); (case l => is_list); (case lo => first | omega | decide); (case hi => first | omega | decide); (case z => (simp only [List.length_cons, List.length_nil]; decide)); (case e => (simp only [Int.sub_zero, Int.sub_self, Int.reduceSub, Int.reduceToNat, Int.toNat_zero, List.replicate_succ, List.replicate_zero, List.flatten_cons, List.flatten_nil, List.cons_append, List.nil_append, List.append_nil]; first | done | exact rfl)); k_whole); intro D' h' F' N' l1; (try k_lt l1); (try k_sweep))
  k_with "CompRest" => (refine stop_out ?_)
  k_with "CompEnd" => k_dflt (first | (refine LCg.CompEnd.intro (by assumption) (by assumption) _ (fun _ h => h) (by assumption) (by lcg_src) ?_) | (refine LCg.CompEnd.intro (by assumption) (by assumption) _ (fun _ h => List.Mem.tail _ h) (by assumption) (by lcg_src) ?_))
  k_with "TurnV" => (refine TurnV.mk (fun _ h => h) (by first | exact StrIs.mk | exact IntIs.mk (by first | rfl | decide | omega) | rfl))
  k_with "FinE" => ((unfold LCg.FinE); intro D' h' tk' F' N' o1'; (replace o1' := off1H o1'); (try simp only [List.nil_append, List.cons_append] at N'); (try simp only [List.nil_append, List.cons_append] at o1'); (try dsimp only))
  k_with "FinA" => ((unfold LCg.FinA); intro D' h' tk' F' N' o1'; (replace o1' := off1H o1'); (try simp only [List.nil_append, List.cons_append] at N'); (try simp only [List.nil_append, List.cons_append] at o1'); (try dsimp only))
  k_with "subscriptTail Name Name ref int" => (k_here; (with_reducible show wpAny _ _ (subscriptTail _ _ (Value.ref _) (Value.int _ _)) _ _ _); k_dflt (refine' item_led ?N ?m ?a ?b ?x ?_; (case N => k_asm); (case m => k_mem); (case a => decide); (case b => decide); (case x => exact rfl)))
  k_with "subscriptTail Name Constant ref int" => (k_here; (with_reducible show wpAny _ _ (subscriptTail _ _ (Value.ref _) (Value.int _ _)) _ _ _); k_dflt (refine' item_led ?N ?m ?a ?b ?x ?_; (case N => k_asm); (case m => k_mem); (case a => decide); (case b => decide); (case x => exact rfl)))
  k_with "subscriptTail Name BinOp ref int" => (k_here; (with_reducible show wpAny _ _ (subscriptTail _ _ (Value.ref _) (Value.int _ _)) _ _ _); k_dflt (refine' item_led ?N ?m ?a ?b ?x ?_; (case N => k_asm); (case m => k_mem); (case a => decide); (case b => decide); (case x => exact rfl)))
  k_with "eval Name" => (k_here; (with_reducible show wpAny _ _ (eval (Expr.Name _ _) (compEnvC _ _ _ _)) _ _ _); k_dflt (first | (refine' lcf_cell ?N ?c ?m ?d ?_ ?a ?b; (case b => exact rfl); (case a => exact rfl); (case N => k_asm); (case c => exact rfl); (case m => k_mem); (case d => k_asm)) | (refine' LCgL.ld_own ?N ?m ?h ?x ?_ ?a ?b; (case b => exact rfl); (case a => exact rfl); (case N => k_asm); (case x => with_reducible assumption); (case m => k_mem); (case h => with_reducible assumption))))
  k_with "SegE" => (refine stop_out ?_)
  k_with "CompSrc" => (k_here; k_dflt (refine LCg.CompSrc.range (n := 4) (by rfl) (by k_asm) (by k_asm) (by assumption) (by first | decide | rfl) (by first | rfl | decide) (by first | size_fits | exact Nat.le_of_ble_eq_true rfl) ?_; intro g'))
  k_with "call builtin:sum" => (refine stop_out ?_)
  k_with "call ref" => (refine stop_out ?_)
  subst hlow
  delta SegBd PG lo; k_fill
  intro X T B'
  refine' cellAt_of ?ho ?_
  case ho => k_is
  intro E
  refine LD.each ?_
  intro h' tk' gens' m' o4 o5 o6 o7 bare hm F' N' e4 e5 e6 e7 off
  dsimp only [nthS, forBody]
  have hm1 := hm.1; have hm2 := hm.2.1; have hm3 := hm.2.2
  replace F' := fr_known3G F' hm1 hm2 hm3
  k_steps
  refine stop_in ?_
  refine sum_bools (bs := [ring0 l, ring1 l, ring2 l, ring3 l]) rfl (by k_asm) (by k_asm) (by is_list) ?_
  intro h9 tk9 u9 F9 N9
  rw [show preSum (fun i => if [ring0 l, ring1 l, ring2 l, ring3 l].getD i false = true then 1 else 0) [ring0 l, ring1 l, ring2 l, ring3 l].length = cnt4 (ring0 l) (ring1 l) (ring2 l) (ring3 l) from rfl]
  have hr := cnt4_rng (ring0 l) (ring1 l) (ring2 l) (ring3 l)
  k_steps
  refine stop_in ?_
  refine' use_ctr (hlev _ _ _ _) ?k1 ?k2 ?k3 ?k4 ?k5 ?kK ?kd ?ku ?_
  (case k1 => k_asm)
  (case k2 => k_asm)
  (case k3 => k_asm)
  (case k4 => k_asm)
  (case k5 => k_asm)
  (case kK => first | exact rfl | assumption)
  (case kd => first | ktr_room | decide +kernel)
  (case ku => first | ktr_units | decide +kernel)
  intro t8 h8 tk8 F8 N8
  (try dsimp only)
  k_steps
  refine stop_in ?_
  refine sum_bools (bs := [ring0 l, ring1 l, ring2 l, ring3 l]) rfl (by k_asm) (by k_asm) (by is_list) ?_
  intro h7 tk7 u7 F7 N7
  rw [show preSum (fun i => if [ring0 l, ring1 l, ring2 l, ring3 l].getD i false = true then 1 else 0) [ring0 l, ring1 l, ring2 l, ring3 l].length = cnt4 (ring0 l) (ring1 l) (ring2 l) (ring3 l) from rfl]
  k_steps
  all_goals (try refine stop_in ?_)
  · exfalso
    first
    | (rename _ ≠ _ => hne; exact hne rfl)
    | (rename _ = true => hne; simp at hne)
  all_goals (
    (try refine stop_in ?_)
    (try dsimp only)
    exact ⟨rfl, LD.mk bare (by k_asm) ⟨by rfl, by rfl, by rfl⟩ (by k_asm) (by k_mem) (by k_mem) (by k_mem) (by k_mem) (by assumption) (by assumption) (by assumption) (by assumption) (by lcg_sub) (by repeat' (first | with_reducible assumption | exact off4_sub (by with_reducible assumption) (by lcg_sub) | exact off7_sub4 (by with_reducible assumption) (by lcg_sub) | exact off4_nil | refine off4_consO (by with_reducible assumption) (by k_mem) ?_ | refine off4_cons (by first | with_reducible assumption | exact off1H_at (by with_reducible assumption) (by k_mem)) (by first | with_reducible assumption | exact off1H_at (by with_reducible assumption) (by k_mem)) (by first | with_reducible assumption | exact off1H_at (by with_reducible assumption) (by k_mem)) (by first | with_reducible assumption | exact off1H_at (by with_reducible assumption) (by k_mem)) ?_))⟩)
  k_with_none
end

section
theorem freeL_len (b1 b2 b3 : Bool) : (freeL b1 b2 b3).length ≤ 4 := by cases b1 <;> cases b2 <;> cases b3 <;> decide
set_option maxHeartbeats 0 in
theorem segB5 (w : World) (mean : ExcName → Option Value) (mg mb : Str → Option Value) (s : Shared) (L' : Addr) (x l : Int) (h0 : 0 ≤ l) (h1 : l < 16) (tm tl : Tok) (IT : Addr) (oI : Obj) (lr nr : Nat) (v6 : Option Value) (lv : Int) (tv : Tok) (p0 p1 p2 p3 : Str) (v0 v1 v2 v3 : Tok) (lp np : Nat) (hp0 : p0.length < 10) (hp1 : p1.length < 10) (hp2 : p2.length < 10) (hp3 : p3.length < 10) (c0 c1 c2 c3 : Nat) (q0 : 0 < p0.length) (q1 : 0 < p1.length) (q2 : 0 < p2.length) (q3 : 0 < p3.length) (i0 : Txt.item p0 0 = ⟨#[c0]⟩) (i1 : Txt.item p1 0 = ⟨#[c1]⟩) (i2 : Txt.item p2 0 = ⟨#[c2]⟩) (i3 : Txt.item p3 0 = ⟨#[c3]⟩) (e0 e1 e2 e3 : Nat) (u0 : Txt.upper ⟨#[c0]⟩ = ⟨#[e0]⟩) (u1 : Txt.upper ⟨#[c1]⟩ = ⟨#[e1]⟩) (u2 : Txt.upper ⟨#[c2]⟩ = ⟨#[e2]⟩) (u3 : Txt.upper ⟨#[c3]⟩ = ⟨#[e3]⟩) (nx : Int) (tw : Tok)
    (hfree : 0 < l → ∃ r, (freeL (ring1 l) (ring2 l) (ring3 l)).filter (fun k => k != lv) = nx :: r) (n0 : 0 ≤ nx) (n1 : nx < 4)
    (hlev : 0 < l → ∀ (ta tb tc : Tok) (news : List (Addr × Obj)), Ctr w 20 150 127 [.str ⟨#[wc (ring0 l) c0 e0, wc (ring1 l) c1 e1, wc (ring2 l) c2 e2, wc (ring3 l) c3 e3]⟩ ta, .str ⟨#[wc (chg 0 nx (ring0 l)) c0 e0, wc (chg 1 nx (ring1 l)) c1 e1, wc (chg 2 nx (ring2 l)) c2 e2, wc (chg 3 nx (ring3 l)) c3 e3]⟩ tb, .int 1 tc] news (RetVal (fun t => .int 1 t) news)) :
    SegBd w mean mg mb s L' 5 (LD s L' (fun m => m (Str.ofString "word") = some (.str ⟨#[wc (ring0 l) c0 e0, wc (ring1 l) c1 e1, wc (ring2 l) c2 e2, wc (ring3 l) c3 e3]⟩ tw) ∧ m (Str.ofString "left") = some (.int l tl) ∧ m (Str.ofString "moves") = some (.int x tm)) (some (.ref lp)) (some (.ref lr)) v6 (some (.int lv tv)) [(IT, oI), (lr, listOf [.bool (ring0 l), .bool (ring1 l), .bool (ring2 l), .bool (ring3 l)].toArray nr), (lp, listOf [.str p0 v0, .str p1 v1, .str p2 v2, .str p3 v3].toArray np)]) (fun s₂ => (l = 0 ∧ LD s L' (fun m => m (Str.ofString "moves") = some (.int x tm)) (some (.ref lp)) (some (.ref lr)) v6 (some (.int lv tv)) [(IT, oI), (lr, listOf [.bool (ring0 l), .bool (ring1 l), .bool (ring2 l), .bool (ring3 l)].toArray nr), (lp, listOf [.str p0 v0, .str p1 v1, .str p2 v2, .str p3 v3].toArray np)] s₂) ∨ (0 < l ∧ ∃ lr' nr' tv', LD s L' (fun m => m (Str.ofString "moves") = some (.int x tm)) (some (.ref lp)) (some (.ref lr')) v6 (some (.int nx tv')) [(IT, oI), (lr', listOf [.bool (chg 0 nx (ring0 l)), .bool (chg 1 nx (ring1 l)), .bool (chg 2 nx (ring2 l)), .bool (chg 3 nx (ring3 l))].toArray nr'), (lp, listOf [.str p0 v0, .str p1 v1, .str p2 v2, .str p3 v3].toArray np)] s₂ ∧ NeH IT lr')) := by
  k_with "LeaveK" => (k_dflt (refine' leaveM ?hM ?hN ?G ?k1 ?k2 ?sub ?_; (case G => assumption); (case hM => assumption); (case hN => assumption); (case k1 => k_asm); (case k2 => k_asm); (case sub => lcg_sub)); intro kF kN kM; (try dsimp only))
  k_with "CompSrcT" => (k_here; k_dflt (first | (refine LCt.CompSrcT.range (n := 4) (by rfl) (by k_asm) (by k_asm) (by assumption) (by first | decide | rfl) (by first | rfl | decide) (by first | size_fits | exact Nat.le_of_ble_eq_true rfl) ?_; intro g') | (refine LCt.CompSrcT.range (n := 3) (by rfl) (by k_asm) (by k_asm) (by assumption) (by first | decide | rfl) (by first | rfl | decide) (by first | size_fits | exact Nat.le_of_ble_eq_true rfl) ?_; intro g') | (refine LCt.CompSrcT.range (n := 2) (by rfl) (by k_asm) (by k_asm) (by assumption) (by first | decide | rfl) (by first | rfl | decide) (by first | size_fits | exact Nat.le_of_ble_eq_true rfl) ?_; intro g') | (refine LCt.CompSrcT.range (n := 1) (by rfl) (by k_asm) (by k_asm) (by assumption) (by first | decide | rfl) (by first | rfl | decide) (by first | size_fits | exact Nat.le_of_ble_eq_true rfl) ?_; intro g') | (refine LCt.CompSrcT.range (n := 0) (by rfl) (by k_asm) (by k_asm) (by assumption) (by first | decide | rfl) (by first | rfl | decide) (by first | size_fits | exact Nat.le_of_ble_eq_true rfl) ?_; intro g')))
  k_with "CompRestT" => (refine stop_out ?_)
  k_with "TurnT" => (refine TurnT.mk (by first | exact fun _ h => h | lcg_sub) ?_ (by first | exact StrIs.mk | exact IntIs.mk (by first | rfl | decide | omega)); (try dsimp only); first | assumption | (with_unfolding_all exact decide_eq_true (by assumption)) | (simp_all; done))
  k_with "TurnF" => (refine TurnF.mk (by first | exact fun _ h => h | lcg_sub) ?_; (try dsimp only); first | assumption | (with_unfolding_all exact decide_eq_false (by assumption)) | (simp_all; done))
  k_with "eval ListComp" => (k_here; (with_reducible show wpAny _ _ (eval (Expr.ListComp _ _ _ _) _) _ _ _); first | (lct_look; lcg_calm; k_dflt (refine LCt.ListComp_T (F₀ := by k_asm) (by with_unfolding_all rfl) (by decide) (by rfl) (by decide) (by rfl) ?_); k_dflt lct_toSrc) | (lcf_look; lcg_calm; k_dflt (refine LCg.ListComp_U (F₀ := by k_asm) (by with_unfolding_all rfl) (by decide) (by rfl) (by decide) (by rfl) ?_); k_dflt lcg_toSrc) | (lcg_look; lcg_calm; k_dflt (refine LCg.ListComp_U (F₀ := by k_asm) (by rfl) (by decide) (by rfl) (by decide) (by rfl) ?_); k_dflt lcg_toSrc))
  k_with "binaryOp Mult ref int" => (k_here; (with_reducible show wpAny _ _ (binaryOp Operator.Mult (Value.ref _) (Value.int _ _)) _ _ _); k_dflt (refine' KMa.mul ?F ?N ?l ?lo ?hi ?z ?e ?_; (case F => k_asm); (case N => k_asm); (case l => is_list); (case lo => first | omega | decide); (case hi => first | omega | decide); (case z => (simp only [List.length_cons, List.length_nil]; decide)); (case e => (simp only [Int.sub_zero, Int.sub_self, Int.reduceSub, Int.reduceToNat, Int.toNat_zero, List.replicate_succ, List.replicate_zero, List.flatten_cons, List.flatten_nil, List.cons_append, List.nil_append, List.append_nil]; first | done | exact rfl)); k_whole); intro D' h' F' N' l1; (try k_lt l1); (try k_sweep))
  k_with "CompRest" => (refine stop_out ?_)
  k_with "CompEnd" => k_dflt (first | (refine LCg.CompEnd.intro (by assumption) (by assumption) _ (fun _ h => h) (by assumption) (by lcg_src) ?_) | (refine LCg.CompEnd.intro (by assumption) (by assumption) _ (fun _ h => List.Mem.tail _ h) (by assumption) (by lcg_src) ?_))
  k_with "TurnV" => (refine TurnV.mk (fun _ h => h) (by first | exact StrIs.mk | exact IntIs.mk (by first | rfl | decide | omega) | rfl))
  k_with "FinE" => ((unfold LCg.FinE); intro D' h' tk' F' N' o1'; (replace o1' := off1H o1'); (try simp only [List.nil_append, List.cons_append] at N'); (try simp only [List.nil_append, List.cons_append] at o1'); (try dsimp only))
  k_with "FinA" => ((unfold LCg.FinA); intro D' h' tk' F' N' o1'; (replace o1' := off1H o1'); (try simp only [List.nil_append, List.cons_append] at N'); (try simp only [List.nil_append, List.cons_append] at o1'); (try dsimp only))
  k_with "subscriptTail Name Name ref int" => (k_here; (with_reducible show wpAny _ _ (subscriptTail _ _ (Value.ref _) (Value.int _ _)) _ _ _); k_dflt (refine' item_led ?N ?m ?a ?b ?x ?_; (case N => k_asm); (case m => k_mem); (case a => decide); (case b => decide); (case x => exact rfl)))
  k_with "subscriptTail Name Constant ref int" => (k_here; (with_reducible show wpAny _ _ (subscriptTail _ _ (Value.ref _) (Value.int _ _)) _ _ _); k_dflt (refine' item_led ?N ?m ?a ?b ?x ?_; (case N => k_asm); (case m => k_mem); (case a => decide); (case b => decide); (case x => exact rfl)))
  k_with "subscriptTail Name BinOp ref int" => (k_here; (with_reducible show wpAny _ _ (subscriptTail _ _ (Value.ref _) (Value.int _ _)) _ _ _); k_dflt (refine' item_led ?N ?m ?a ?b ?x ?_; (case N => k_asm); (case m => k_mem); (case a => decide); (case b => decide); (case x => exact rfl)))
  k_with "eval Name" => (k_here; (with_reducible show wpAny _ _ (eval (Expr.Name _ _) (compEnvC _ _ _ _)) _ _ _); k_dflt (first | (refine' lcf_cell ?N ?c ?m ?d ?_ ?a ?b; (case b => exact rfl); (case a => exact rfl); (case N => k_asm); (case c => exact rfl); (case m => k_mem); (case d => k_asm)) | (refine' LCgL.ld_own ?N ?m ?h ?x ?_ ?a ?b; (case b => exact rfl); (case a => exact rfl); (case N => k_asm); (case x => with_reducible assumption); (case m => k_mem); (case h => with_reducible assumption))))
  k_with "SegE" => (refine stop_out ?_)
  k_with "CompSrc" => (k_here; k_dflt (refine LCg.CompSrc.range (n := 4) (by rfl) (by k_asm) (by k_asm) (by assumption) (by first | decide | rfl) (by first | rfl | decide) (by first | size_fits | exact Nat.le_of_ble_eq_true rfl) ?_; intro g'))
  k_with "call ref" => (refine stop_out ?_)
  k_with "CompSrcT" => (refine stop_out ?_)
  k_with "eval ListComp" => (k_here; (with_reducible show wpAny _ _ (eval (Expr.ListComp _ _ _ _) _) _ _ _); lct_look; lcg_calm; k_dflt (refine LCt.ListComp_T (F₀ := by k_asm) (by with_unfolding_all rfl) (by decide) (by rfl) (by decide) (by rfl) ?_))
  k_with "TurnT" => (refine TurnT.mk (by lcg_sub) ?_ (by exact IntIs.mk rfl); (try dsimp only); first | assumption | exact bne_iff_ne.mpr (by assumption))
  k_with "TurnF" => (refine TurnF.mk (by lcg_sub) ?_; (try dsimp only); first | assumption | exact bne_eq_false_iff_eq.mpr (by assumption))
  k_with "JS" => exact ⟨_, _, rfl, rfl⟩
  k_with "ite" => ((with_reducible show ite (_ = true) (wpAny _ _ (eval (Expr.Call _ _ _ _) _) _ _ _) (wpAny _ _ (eval (Expr.Subscript _ _ _) _) _ _ _)); refine stop_out ?_)
  k_with "itex" => ((with_reducible show ite (_ = true) (wpAny _ _ (eval (Expr.Call _ _ _ _) _) _ _ _) (wpAny _ _ (eval (Expr.Subscript _ _ _) _) _ _ _)); k_dflt (refine' join_str ?a1 ?a2 ?_); (case a1 => (intro hc9; k_steps; (try exact ⟨_, _, rfl, rfl⟩); done)); (case a2 => (intro hc9; k_steps; (try exact ⟨_, _, rfl, rfl⟩); done)); intro t9 tk9; (try dsimp only))
  k_with "TurnV" => (refine stop_out ?_)
  delta SegBd PG lo; k_fill
  intro X T B'
  refine' cellAt_of ?ho ?_
  case ho => k_is
  intro E
  refine LD.each ?_
  intro h' tk' gens' m' o4 o5 o6 o7 bare hm F' N' e4 e5 e6 e7 off
  dsimp only [nthS, forBody]
  have hm1 := hm.1; have hm2 := hm.2.1; have hm3 := hm.2.2
  replace F' := fr_known3G F' hm1 hm2 hm3
  k_steps
  · refine stop_in ?_
    refine' use_ctr (c_free _ _ _ _ _ _ _ _ ?m1) ?k1 ?k2 ?k3 ?k4 ?k5 ?kK ?kd ?ku ?_
    (case k1 => k_asm)
    (case k2 => k_asm)
    (case k3 => k_asm)
    (case k4 => k_asm)
    (case k5 => k_asm)
    (case kK => first | exact rfl | assumption)
    (case kd => first | ktr_room | decide +kernel)
    (case ku => first | ktr_units | decide +kernel)
    (case m1 => k_mem)
    intro lf us nf h9 tk9 F9 N9 o9 I9
    (replace o9 := off1H_of o9)
    (try dsimp only)
    k_steps
    refine stop_in ?_
    refine LCt.CompSrcT.ledger (by rfl) (by k_asm) (by k_asm) (by k_mem) (by rw [List.size_toArray, I9.length, sizeLine_eq]; exact Nat.le_trans (freeL_len _ _ _) (by decide)) ?_
    intro g'
    refine restT_ints I9 (fun k => k != lv) (Or.inr ⟨_, by k_mem, rfl, _, rfl⟩) ?_ ?_
    · intro i9 k9 t9 hk9
      (intro v' I' oI' C' oC' D' m' h' tk' E' ys' hv' hC' hx' F' N' off' ne'; subst hv'; (try dsimp only); k_steps)
    intro ys hI
    obtain ⟨r9, hr9⟩ := hfree (by assumption)
    rw [hr9] at hI
    cases hI with
    | cons _ tn9 hI9 =>
    k_steps
    refine stop_in ?_
    refine' use_ctr (c_changedK _ _ _ _ n0 n1 _ _ _ _ _ _ ?m1) ?k1 ?k2 ?k3 ?k4 ?k5 ?kK ?kd ?ku ?_
    (case k1 => k_asm)
    (case k2 => k_asm)
    (case k3 => k_asm)
    (case k4 => k_asm)
    (case k5 => k_asm)
    (case kK => first | exact rfl | assumption)
    (case kd => first | ktr_room | decide +kernel)
    (case ku => first | ktr_units | decide +kernel)
    (case m1 => k_mem)
    intro l9 n9 h9 tk9 F9 N9 o9; (replace o9 := off1H_of o9); (try dsimp only)
    k_steps
    refine stop_in ?_
    refine restU [StrIs ⟨#[wc (chg 0 nx (ring0 l)) c0 e0]⟩, StrIs ⟨#[wc (chg 1 nx (ring1 l)) c1 e1]⟩, StrIs ⟨#[wc (chg 2 nx (ring2 l)) c2 e2]⟩, StrIs ⟨#[wc (chg 3 nx (ring3 l)) c3 e3]⟩] _ rfl (by lcg_src) ⟨?_, ?_, ?_, ?_, trivial⟩ ?_
    · (intro v' I' oI' C' oC' D' m₂' h' tk' E' ys' hv' hC' hx' F' N' off' ne'; (first | lcg_open hv' | (obtain ⟨t9', hv9'⟩ := hv'; subst hv9')); (try dsimp only); k_steps; refine stop_in ?_; walk_at "itex"; k_steps; refine stop_in ?_; exact TurnV.mk (fun _ h => h) (by rw [← wl_is i0 u0]; exact StrIs.mk))
    · (intro v' I' oI' C' oC' D' m₂' h' tk' E' ys' hv' hC' hx' F' N' off' ne'; (first | lcg_open hv' | (obtain ⟨t9', hv9'⟩ := hv'; subst hv9')); (try dsimp only); k_steps; refine stop_in ?_; walk_at "itex"; k_steps; refine stop_in ?_; exact TurnV.mk (fun _ h => h) (by rw [← wl_is i1 u1]; exact StrIs.mk))
    · (intro v' I' oI' C' oC' D' m₂' h' tk' E' ys' hv' hC' hx' F' N' off' ne'; (first | lcg_open hv' | (obtain ⟨t9', hv9'⟩ := hv'; subst hv9')); (try dsimp only); k_steps; refine stop_in ?_; walk_at "itex"; k_steps; refine stop_in ?_; exact TurnV.mk (fun _ h => h) (by rw [← wl_is i2 u2]; exact StrIs.mk))
    · (intro v' I' oI' C' oC' D' m₂' h' tk' E' ys' hv' hC' hx' F' N' off' ne'; (first | lcg_open hv' | (obtain ⟨t9', hv9'⟩ := hv'; subst hv9')); (try dsimp only); k_steps; refine stop_in ?_; walk_at "itex"; k_steps; refine stop_in ?_; exact TurnV.mk (fun _ h => h) (by rw [← wl_is i3 u3]; exact StrIs.mk))
    intro ys9 hys9
    obtain ⟨y0, y1, y2, y3, rfl, ⟨_, rfl⟩, ⟨_, rfl⟩, ⟨_, rfl⟩, ⟨_, rfl⟩⟩ := hys9.four
    k_steps
    refine join_listW (ys := [⟨#[wc (chg 0 nx (ring0 l)) c0 e0]⟩, ⟨#[wc (chg 1 nx (ring1 l)) c1 e1]⟩, ⟨#[wc (chg 2 nx (ring2 l)) c2 e2]⟩, ⟨#[wc (chg 3 nx (ring3 l)) c3 e3]⟩]) (News.isList (by assumption) (by k_mem)) (.cons _ _ (.cons _ _ (.cons _ _ (.cons _ _ .nil)))) (by decide) (word_fit _ _ _ _) ?_
    rw [word_is]
    intro t9 k9
    k_steps
    refine stop_in ?_
    refine' use_ctr (hlev (by assumption) _ _ _ _) ?k1 ?k2 ?k3 ?k4 ?k5 ?kK ?kd ?ku ?_
    (case k1 => k_asm)
    (case k2 => k_asm)
    (case k3 => k_asm)
    (case k4 => k_asm)
    (case k5 => k_asm)
    (case kK => first | exact rfl | assumption)
    (case kd => first | ktr_room | decide +kernel)
    (case ku => first | ktr_units | decide +kernel)
    intro t8 h8 tk8 F8 N8
    (try dsimp only)
    k_steps
    refine stop_in ?_
    exact ⟨rfl, .inr ⟨by assumption, _, _, _, LD.mk bare (by k_asm) (by rfl) (by k_asm) (by k_mem) (by k_mem) (by k_mem) (by k_mem) (by assumption) (by assumption) (by assumption) (by assumption) (by lcg_sub) (by repeat' (first | with_reducible assumption | exact off4_sub (by with_reducible assumption) (by lcg_sub) | exact off7_sub4 (by with_reducible assumption) (by lcg_sub) | exact off4_nil | refine off4_consO (by with_reducible assumption) (by k_mem) ?_ | refine off4_cons (by first | with_reducible assumption | exact off1H_at (by with_reducible assumption) (by k_mem)) (by first | with_reducible assumption | exact off1H_at (by with_reducible assumption) (by k_mem)) (by first | with_reducible assumption | exact off1H_at (by with_reducible assumption) (by k_mem)) (by first | with_reducible assumption | exact off1H_at (by with_reducible assumption) (by k_mem)) ?_)), by first | with_reducible assumption | exact off1H_at (by with_reducible assumption) (by k_mem)⟩⟩
  · refine stop_in ?_
    exact ⟨rfl, .inl ⟨by omega, LD.mk bare (by k_asm) (by rfl) (by k_asm) (by k_mem) (by k_mem) (by k_mem) (by k_mem) (by assumption) (by assumption) (by assumption) (by assumption) (by lcg_sub) (by repeat' (first | with_reducible assumption | exact off4_sub (by with_reducible assumption) (by lcg_sub) | exact off7_sub4 (by with_reducible assumption) (by lcg_sub) | exact off4_nil | refine off4_consO (by with_reducible assumption) (by k_mem) ?_ | refine off4_cons (by first | with_reducible assumption | exact off1H_at (by with_reducible assumption) (by k_mem)) (by first | with_reducible assumption | exact off1H_at (by with_reducible assumption) (by k_mem)) (by first | with_reducible assumption | exact off1H_at (by with_reducible assumption) (by k_mem)) (by first | with_reducible assumption | exact off1H_at (by with_reducible assumption) (by k_mem)) ?_))⟩⟩
  k_with_none
end

section
noncomputable def PB (w : World) (s : Shared) (L' : Addr) (i : Nat) (Pre Post : Shared → Prop) (body : List Stmt) (env : Env) : Prop := ∀ E s₁, Pre s₁ → wpAny (model PG w) (callerA.deeper env) (exec (nthS (forBody (nthS body 10)) i) env) (SegE Post) E s₁
/-- the ring that is to be changed when so many moves are left -/
noncomputable def nxt (l : Int) : Int := if l.fmod 2 = 1 then 3 else if l.fmod 4 = 2 then 2 else if l.fmod 8 = 4 then 1 else 0
noncomputable def LastOk (l lv : Int) : Prop := 0 < l → ∃ r, (freeL (ring1 l) (ring2 l) (ring3 l)).filter (fun k => k != lv) = nxt l :: r
theorem rng_down {x : Int} (h0 : 0 ≤ x) (h1 : x < 16) : Builtin.Range.small x (-1) (-1) = true ∧ Builtin.Range.rangeSize x (-1) (-1) = ((x.toNat + 1 : Nat) : Int) := by
  have key : ∀ n : Nat, n < 16 → Builtin.Range.small (n : Int) (-1) (-1) = true ∧ Builtin.Range.rangeSize (n : Int) (-1) (-1) = (((n : Int).toNat + 1 : Nat) : Int) := by decide +kernel
  have := key x.toNat (by omega)
  rwa [Int.toNat_of_nonneg h0] at this
structure Dt where
  l : Int
  lr : Nat
  nr : Nat
  lv : Int
  tv : Tok
  v6 : Option Value
theorem seq_seg {w : World} {A : Around} {env : Env} {st : Stmt} {rest : List Stmt} {Post : Shared → Prop} {Q : Flow → Shared → Prop} {E : Value → Shared → Prop} {s : Shared} (h : wpAny (model PG w) A (exec st env) (SegE Post) E s) (k : ∀ s₂, Post s₂ → wpAny (model PG w) A (execs rest env) Q E s₂) : wpAny (model PG w) A (execs (st :: rest) env) Q E s :=
  wpAny_execs_cons (wpAny_mono h (fun f s₂ q => by obtain ⟨rfl, q⟩ := q; exact k s₂ q) fun _ _ e => e)
set_option maxHeartbeats 0 in
theorem seg10 (w : World) (mean : ExcName → Option Value) (mg mb : Str → Option Value) (s : Shared) (L' : Addr) (x : Int) (hx0 : 0 ≤ x) (hx1 : x < 16) (tm : Tok) (p0 p1 p2 p3 : Str) (v0 v1 v2 v3 : Tok) (lp np : Nat) (hp0 : p0.length < 10) (hp1 : p1.length < 10) (hp2 : p2.length < 10) (hp3 : p3.length < 10) (c0 c1 c2 c3 : Nat) (q0 : 0 < p0.length) (q1 : 0 < p1.length) (q2 : 0 < p2.length) (q3 : 0 < p3.length) (i0 : Txt.item p0 0 = ⟨#[c0]⟩) (i1 : Txt.item p1 0 = ⟨#[c1]⟩) (i2 : Txt.item p2 0 = ⟨#[c2]⟩) (i3 : Txt.item p3 0 = ⟨#[c3]⟩) (e0 e1 e2 e3 : Nat) (u0 : Txt.upper ⟨#[c0]⟩ = ⟨#[e0]⟩) (u1 : Txt.upper ⟨#[c1]⟩ = ⟨#[e1]⟩) (u2 : Txt.upper ⟨#[c2]⟩ = ⟨#[e2]⟩) (u3 : Txt.upper ⟨#[c3]⟩ = ⟨#[e3]⟩) (hTold : ∀ l, 0 ≤ l → l < 16 → toldF (ring0 l) (ring1 l) (ring2 l) (ring3 l) (Str.ofString "\"") p0 p1 p2 p3 = dueF l p0 p1 p2 p3) (hOpen : ∀ l, 0 ≤ l → l < 16 → ((cnt4 (ring0 l) (ring1 l) (ring2 l) (ring3 l)).fmod 2 = 1 → (ring0 l || ring1 l || ring2 l || ring3 l) = true ∧ toldF (ring0 l) (ring1 l) (ring2 l) (ring3 l) (Str.ofString "") p0 p1 p2 p3 = openF l (ring1 l) (ring2 l) (ring3 l) p0 p1 p2 p3)) (hlow : ∀ l, 0 ≤ l → l < 16 → Txt.lower ⟨#[wc (ring0 l) c0 e0, wc (ring1 l) c1 e1, wc (ring2 l) c2 e2, wc (ring3 l) c3 e3]⟩ = ⟨#[c0, c1, c2, c3]⟩) (hlev : ∀ l, 0 ≤ l → l < 16 → ∀ (ta tb tc : Tok) (news : List (Addr × Obj)), Ctr w 20 150 127 [.str ⟨#[wc (ring0 l) c0 e0, wc (ring1 l) c1 e1, wc (ring2 l) c2 e2, wc (ring3 l) c3 e3]⟩ ta, .str ⟨#[c0, c1, c2, c3]⟩ tb, .int (cnt4 (ring0 l) (ring1 l) (ring2 l) (ring3 l)) tc] news (RetVal (fun t => .int (cnt4 (ring0 l) (ring1 l) (ring2 l) (ring3 l)) t) news)) (hlev1 : ∀ l, 0 ≤ l → l < 16 → 0 < l → ∀ (ta tb tc : Tok) (news : List (Addr × Obj)), Ctr w 20 150 127 [.str ⟨#[wc (ring0 l) c0 e0, wc (ring1 l) c1 e1, wc (ring2 l) c2 e2, wc (ring3 l) c3 e3]⟩ ta, .str ⟨#[wc (chg 0 (nxt l) (ring0 l)) c0 e0, wc (chg 1 (nxt l) (ring1 l)) c1 e1, wc (chg 2 (nxt l) (ring2 l)) c2 e2, wc (chg 3 (nxt l) (ring3 l)) c3 e3]⟩ tb, .int 1 tc] news (RetVal (fun t => .int 1 t) news)) (hn0 : ∀ l, 0 ≤ nxt l) (hn1 : ∀ l, nxt l < 4) (hstep : ∀ l, 0 ≤ l → l < 16 → 0 < l → ring0 (l - 1) = chg 0 (nxt l) (ring0 l) ∧ ring1 (l - 1) = chg 1 (nxt l) (ring1 l) ∧ ring2 (l - 1) = chg 2 (nxt l) (ring2 l) ∧ ring3 (l - 1) = chg 3 (nxt l) (ring3 l)) (hnext : ∀ l, 0 ≤ l → l < 16 → 1 < l → ∃ r, (freeL (ring1 (l - 1)) (ring2 (l - 1)) (ring3 (l - 1))).filter (fun k => k != nxt l) = nxt (l - 1) :: r) (lr nr : Nat) (v6 : Option Value) (lv : Int) (tv : Tok) (hlast : LastOk x lv) :
    SegAt w mean mg mb s L' 10 (LD s L' (fun m => m (Str.ofString "moves") = some (.int x tm)) (some (.ref lp)) (some (.ref lr)) v6 (some (.int lv tv)) [(lr, listOf [.bool (ring0 x), .bool (ring1 x), .bool (ring2 x), .bool (ring3 x)].toArray nr), (lp, listOf [.str p0 v0, .str p1 v1, .str p2 v2, .str p3 v3].toArray np)])
      (fun s₂ => ∃ c5 c6 c7, LD s L' (fun m => m (Str.ofString "moves") = some (.int x tm)) (some (.ref lp)) c5 c6 c7 [(lp, listOf [.str p0 v0, .str p1 v1, .str p2 v2, .str p3 v3].toArray np)] s₂) := by
  k_with "LeaveK" => (k_dflt (refine' leaveM ?hM ?hN ?G ?k1 ?k2 ?sub ?_; (case G => assumption); (case hM => assumption); (case hN => assumption); (case k1 => k_asm); (case k2 => k_asm); (case sub => lcg_sub)); intro kF kN kM; (try dsimp only))
  k_with "CompSrcT" => (k_here; k_dflt (first | (refine LCt.CompSrcT.range (n := 4) (by rfl) (by k_asm) (by k_asm) (by assumption) (by first | decide | rfl) (by first | rfl | decide) (by first | size_fits | exact Nat.le_of_ble_eq_true rfl) ?_; intro g') | (refine LCt.CompSrcT.range (n := 3) (by rfl) (by k_asm) (by k_asm) (by assumption) (by first | decide | rfl) (by first | rfl | decide) (by first | size_fits | exact Nat.le_of_ble_eq_true rfl) ?_; intro g') | (refine LCt.CompSrcT.range (n := 2) (by rfl) (by k_asm) (by k_asm) (by assumption) (by first | decide | rfl) (by first | rfl | decide) (by first | size_fits | exact Nat.le_of_ble_eq_true rfl) ?_; intro g') | (refine LCt.CompSrcT.range (n := 1) (by rfl) (by k_asm) (by k_asm) (by assumption) (by first | decide | rfl) (by first | rfl | decide) (by first | size_fits | exact Nat.le_of_ble_eq_true rfl) ?_; intro g') | (refine LCt.CompSrcT.range (n := 0) (by rfl) (by k_asm) (by k_asm) (by assumption) (by first | decide | rfl) (by first | rfl | decide) (by first | size_fits | exact Nat.le_of_ble_eq_true rfl) ?_; intro g')))
  k_with "CompRestT" => (refine stop_out ?_)
  k_with "TurnT" => (refine TurnT.mk (by first | exact fun _ h => h | lcg_sub) ?_ (by first | exact StrIs.mk | exact IntIs.mk (by first | rfl | decide | omega)); (try dsimp only); first | assumption | (with_unfolding_all exact decide_eq_true (by assumption)) | (simp_all; done))
  k_with "TurnF" => (refine TurnF.mk (by first | exact fun _ h => h | lcg_sub) ?_; (try dsimp only); first | assumption | (with_unfolding_all exact decide_eq_false (by assumption)) | (simp_all; done))
  k_with "eval ListComp" => (k_here; (with_reducible show wpAny _ _ (eval (Expr.ListComp _ _ _ _) _) _ _ _); first | (lct_look; lcg_calm; k_dflt (refine LCt.ListComp_T (F₀ := by k_asm) (by with_unfolding_all rfl) (by decide) (by rfl) (by decide) (by rfl) ?_); k_dflt lct_toSrc) | (lcf_look; lcg_calm; k_dflt (refine LCg.ListComp_U (F₀ := by k_asm) (by with_unfolding_all rfl) (by decide) (by rfl) (by decide) (by rfl) ?_); k_dflt lcg_toSrc) | (lcg_look; lcg_calm; k_dflt (refine LCg.ListComp_U (F₀ := by k_asm) (by rfl) (by decide) (by rfl) (by decide) (by rfl) ?_); k_dflt lcg_toSrc))
  k_with "binaryOp Mult ref int" => (k_here; (with_reducible show wpAny _ _ (binaryOp Operator.Mult (Value.ref _) (Value.int _ _)) _ _ _); k_dflt (refine' KMa.mul ?F ?N ?l ?lo ?hi ?z ?e ?_; (case F => k_asm); (case N => k_asm); (case l => is_list); (case lo => first | omega | decide); (case hi => first | omega | decide); (case z => (simp only [List.length_cons, List.length_nil]; decide)); (case e => (simp only [Int.sub_zero, Int.sub_self, Int.reduceSub, Int.reduceToNat, Int.toNat_zero, List.replicate_succ, List.replicate_zero, List.flatten_cons, List.flatten_nil, List.cons_append, List.nil_append, List.append_nil]; first | done | exact rfl)); k_whole); intro D' h' F' N' l1; (try k_lt l1); (try k_sweep))
  k_with "CompRest" => (refine stop_out ?_)
  k_with "CompEnd" => k_dflt (first | (refine LCg.CompEnd.intro (by assumption) (by assumption) _ (fun _ h => h) (by assumption) (by lcg_src) ?_) | (refine LCg.CompEnd.intro (by assumption) (by assumption) _ (fun _ h => List.Mem.tail _ h) (by assumption) (by lcg_src) ?_))
  k_with "TurnV" => (refine TurnV.mk (fun _ h => h) (by first | exact StrIs.mk | exact IntIs.mk (by first | rfl | decide | omega) | rfl))
  k_with "FinE" => ((unfold LCg.FinE); intro D' h' tk' F' N' o1'; (replace o1' := off1H o1'); (try simp only [List.nil_append, List.cons_append] at N'); (try simp only [List.nil_append, List.cons_append] at o1'); (try dsimp only))
  k_with "FinA" => ((unfold LCg.FinA); intro D' h' tk' F' N' o1'; (replace o1' := off1H o1'); (try simp only [List.nil_append, List.cons_append] at N'); (try simp only [List.nil_append, List.cons_append] at o1'); (try dsimp only))
  k_with "subscriptTail Name Name ref int" => (k_here; (with_reducible show wpAny _ _ (subscriptTail _ _ (Value.ref _) (Value.int _ _)) _ _ _); k_dflt (refine' item_led ?N ?m ?a ?b ?x ?_; (case N => k_asm); (case m => k_mem); (case a => decide); (case b => decide); (case x => exact rfl)))
  k_with "subscriptTail Name Constant ref int" => (k_here; (with_reducible show wpAny _ _ (subscriptTail _ _ (Value.ref _) (Value.int _ _)) _ _ _); k_dflt (refine' item_led ?N ?m ?a ?b ?x ?_; (case N => k_asm); (case m => k_mem); (case a => decide); (case b => decide); (case x => exact rfl)))
  k_with "subscriptTail Name BinOp ref int" => (k_here; (with_reducible show wpAny _ _ (subscriptTail _ _ (Value.ref _) (Value.int _ _)) _ _ _); k_dflt (refine' item_led ?N ?m ?a ?b ?x ?_; (case N => k_asm); (case m => k_mem); (case a => decide); (case b => decide); (case x => exact rfl)))
  k_with "eval Name" => (k_here; (with_reducible show wpAny _ _ (eval (Expr.Name _ _) (compEnvC _ _ _ _)) _ _ _); k_dflt (first | (refine' lcf_cell ?N ?c ?m ?d ?_ ?a ?b; (case b => exact rfl); (case a => exact rfl); (case N => k_asm); (case c => exact rfl); (case m => k_mem); (case d => k_asm)) | (refine' LCgL.ld_own ?N ?m ?h ?x ?_ ?a ?b; (case b => exact rfl); (case a => exact rfl); (case N => k_asm); (case x => with_reducible assumption); (case m => k_mem); (case h => with_reducible assumption))))
  k_with "SegE" => (refine stop_out ?_)
  k_with "CompSrc" => (k_here; k_dflt (refine LCg.CompSrc.range (n := 4) (by rfl) (by k_asm) (by k_asm) (by assumption) (by first | decide | rfl) (by first | rfl | decide) (by first | size_fits | exact Nat.le_of_ble_eq_true rfl) ?_; intro g'))
  k_with "exec For" => (refine stop_out ?_)
  k_with "pyIter ref" => (refine stop_out ?_)
  intro X T B
  have key : CellAt (fun body env => (∀ (l : Int) (h0 : 0 ≤ l) (h1 : l < 16) (tl : Tok) (IT : Addr) (oI : Obj) (lr nr : Nat) (v6 : Option Value) (lv : Int) (tv : Tok), PB w s L' 0 (LD s L' (fun m => m (Str.ofString "left") = some (.int l tl) ∧ m (Str.ofString "moves") = some (.int x tm)) (some (.ref lp)) (some (.ref lr)) v6 (some (.int lv tv)) [(IT, oI), (lr, listOf [.bool (ring0 l), .bool (ring1 l), .bool (ring2 l), .bool (ring3 l)].toArray nr), (lp, listOf [.str p0 v0, .str p1 v1, .str p2 v2, .str p3 v3].toArray np)]) (LD s L' (fun m => m (Str.ofString "left") = some (.int l tl) ∧ m (Str.ofString "moves") = some (.int x tm)) (some (.ref lp)) (some (.ref lr)) v6 (some (.int lv tv)) [(IT, oI), (lr, listOf [.bool (ring0 l), .bool (ring1 l), .bool (ring2 l), .bool (ring3 l)].toArray nr), (lp, listOf [.str p0 v0, .str p1 v1, .str p2 v2, .str p3 v3].toArray np)]) body env) → (∀ (l : Int) (h0 : 0 ≤ l) (h1 : l < 16) (tl : Tok) (IT : Addr) (oI : Obj) (lr nr : Nat) (v6 : Option Value) (lv : Int) (tv : Tok), PB w s L' 1 (LD s L' (fun m => m (Str.ofString "left") = some (.int l tl) ∧ m (Str.ofString "moves") = some (.int x tm)) (some (.ref lp)) (some (.ref lr)) v6 (some (.int lv tv)) [(IT, oI), (lr, listOf [.bool (ring0 l), .bool (ring1 l), .bool (ring2 l), .bool (ring3 l)].toArray nr), (lp, listOf [.str p0 v0, .str p1 v1, .str p2 v2, .str p3 v3].toArray np)]) (LD s L' (fun m => m (Str.ofString "left") = some (.int l tl) ∧ m (Str.ofString "moves") = some (.int x tm)) (some (.ref lp)) (some (.ref lr)) v6 (some (.int lv tv)) [(IT, oI), (lr, listOf [.bool (ring0 l), .bool (ring1 l), .bool (ring2 l), .bool (ring3 l)].toArray nr), (lp, listOf [.str p0 v0, .str p1 v1, .str p2 v2, .str p3 v3].toArray np)]) body env) → (∀ (l : Int) (h0 : 0 ≤ l) (h1 : l < 16) (tl : Tok) (IT : Addr) (oI : Obj) (lr nr : Nat) (v6 : Option Value) (lv : Int) (tv : Tok), PB w s L' 2 (LD s L' (fun m => m (Str.ofString "left") = some (.int l tl) ∧ m (Str.ofString "moves") = some (.int x tm)) (some (.ref lp)) (some (.ref lr)) v6 (some (.int lv tv)) [(IT, oI), (lr, listOf [.bool (ring0 l), .bool (ring1 l), .bool (ring2 l), .bool (ring3 l)].toArray nr), (lp, listOf [.str p0 v0, .str p1 v1, .str p2 v2, .str p3 v3].toArray np)]) (LD s L' (fun m => m (Str.ofString "left") = some (.int l tl) ∧ m (Str.ofString "moves") = some (.int x tm)) (some (.ref lp)) (some (.ref lr)) v6 (some (.int lv tv)) [(IT, oI), (lr, listOf [.bool (ring0 l), .bool (ring1 l), .bool (ring2 l), .bool (ring3 l)].toArray nr), (lp, listOf [.str p0 v0, .str p1 v1, .str p2 v2, .str p3 v3].toArray np)]) body env) → (∀ (l : Int) (h0 : 0 ≤ l) (h1 : l < 16) (tl : Tok) (IT : Addr) (oI : Obj) (lr nr : Nat) (v6 : Option Value) (lv : Int) (tv : Tok), PB w s L' 3 (LD s L' (fun m => m (Str.ofString "left") = some (.int l tl) ∧ m (Str.ofString "moves") = some (.int x tm)) (some (.ref lp)) (some (.ref lr)) v6 (some (.int lv tv)) [(IT, oI), (lr, listOf [.bool (ring0 l), .bool (ring1 l), .bool (ring2 l), .bool (ring3 l)].toArray nr), (lp, listOf [.str p0 v0, .str p1 v1, .str p2 v2, .str p3 v3].toArray np)]) (fun s₂ => ∃ tw, LD s L' (fun m => m (Str.ofString "word") = some (.str ⟨#[wc (ring0 l) c0 e0, wc (ring1 l) c1 e1, wc (ring2 l) c2 e2, wc (ring3 l) c3 e3]⟩ tw) ∧ m (Str.ofString "left") = some (.int l tl) ∧ m (Str.ofString "moves") = some (.int x tm)) (some (.ref lp)) (some (.ref lr)) v6 (some (.int lv tv)) [(IT, oI), (lr, listOf [.bool (ring0 l), .bool (ring1 l), .bool (ring2 l), .bool (ring3 l)].toArray nr), (lp, listOf [.str p0 v0, .str p1 v1, .str p2 v2, .str p3 v3].toArray np)] s₂) body env) → (∀ (l : Int) (h0 : 0 ≤ l) (h1 : l < 16) (tl : Tok) (IT : Addr) (oI : Obj) (lr nr : Nat) (v6 : Option Value) (lv : Int) (tv : Tok) (tw : Tok), PB w s L' 4 (LD s L' (fun m => m (Str.ofString "word") = some (.str ⟨#[wc (ring0 l) c0 e0, wc (ring1 l) c1 e1, wc (ring2 l) c2 e2, wc (ring3 l) c3 e3]⟩ tw) ∧ m (Str.ofString "left") = some (.int l tl) ∧ m (Str.ofString "moves") = some (.int x tm)) (some (.ref lp)) (some (.ref lr)) v6 (some (.int lv tv)) [(IT, oI), (lr, listOf [.bool (ring0 l), .bool (ring1 l), .bool (ring2 l), .bool (ring3 l)].toArray nr), (lp, listOf [.str p0 v0, .str p1 v1, .str p2 v2, .str p3 v3].toArray np)]) (LD s L' (fun m => m (Str.ofString "word") = some (.str ⟨#[wc (ring0 l) c0 e0, wc (ring1 l) c1 e1, wc (ring2 l) c2 e2, wc (ring3 l) c3 e3]⟩ tw) ∧ m (Str.ofString "left") = some (.int l tl) ∧ m (Str.ofString "moves") = some (.int x tm)) (some (.ref lp)) (some (.ref lr)) v6 (some (.int lv tv)) [(IT, oI), (lr, listOf [.bool (ring0 l), .bool (ring1 l), .bool (ring2 l), .bool (ring3 l)].toArray nr), (lp, listOf [.str p0 v0, .str p1 v1, .str p2 v2, .str p3 v3].toArray np)]) body env) → (∀ (l : Int) (h0 : 0 ≤ l) (h1 : l < 16) (tl : Tok) (IT : Addr) (oI : Obj) (lr nr : Nat) (v6 : Option Value) (lv : Int) (tv : Tok) (tw : Tok), LastOk l lv → PB w s L' 5 (LD s L' (fun m => m (Str.ofString "word") = some (.str ⟨#[wc (ring0 l) c0 e0, wc (ring1 l) c1 e1, wc (ring2 l) c2 e2, wc (ring3 l) c3 e3]⟩ tw) ∧ m (Str.ofString "left") = some (.int l tl) ∧ m (Str.ofString "moves") = some (.int x tm)) (some (.ref lp)) (some (.ref lr)) v6 (some (.int lv tv)) [(IT, oI), (lr, listOf [.bool (ring0 l), .bool (ring1 l), .bool (ring2 l), .bool (ring3 l)].toArray nr), (lp, listOf [.str p0 v0, .str p1 v1, .str p2 v2, .str p3 v3].toArray np)]) (fun s₂ => (l = 0 ∧ LD s L' (fun m => m (Str.ofString "moves") = some (.int x tm)) (some (.ref lp)) (some (.ref lr)) v6 (some (.int lv tv)) [(IT, oI), (lr, listOf [.bool (ring0 l), .bool (ring1 l), .bool (ring2 l), .bool (ring3 l)].toArray nr), (lp, listOf [.str p0 v0, .str p1 v1, .str p2 v2, .str p3 v3].toArray np)] s₂) ∨ (0 < l ∧ ∃ lr' nr' tv', LD s L' (fun m => m (Str.ofString "moves") = some (.int x tm)) (some (.ref lp)) (some (.ref lr')) v6 (some (.int (nxt l) tv')) [(IT, oI), (lr', listOf [.bool (chg 0 (nxt l) (ring0 l)), .bool (chg 1 (nxt l) (ring1 l)), .bool (chg 2 (nxt l) (ring2 l)), .bool (chg 3 (nxt l) (ring3 l))].toArray nr'), (lp, listOf [.str p0 v0, .str p1 v1, .str p2 v2, .str p3 v3].toArray np)] s₂ ∧ NeH IT lr')) body env) →
      ∀ E s₁, LD s L' (fun m => m (Str.ofString "moves") = some (.int x tm)) (some (.ref lp)) (some (.ref lr)) v6 (some (.int lv tv)) [(lr, listOf [.bool (ring0 x), .bool (ring1 x), .bool (ring2 x), .bool (ring3 x)].toArray nr), (lp, listOf [.str p0 v0, .str p1 v1, .str p2 v2, .str p3 v3].toArray np)] s₁ →
      wpAny (model PG w) (callerA.deeper env) (exec (nthS body 10) env) (SegE (fun s₂ => ∃ c5 c6 c7, LD s L' (fun m => m (Str.ofString "moves") = some (.int x tm)) (some (.ref lp)) c5 c6 c7 [(lp, listOf [.str p0 v0, .str p1 v1, .str p2 v2, .str p3 v3].toArray np)] s₂)) E s₁) (KF w.params) 178 L' := by
    clear hTold hOpen hlow hlev hlev1
    delta PB PG
    revert X T B
    delta PG lo; k_fill
    intro X T B'
    refine' cellAt_of ?ho ?_
    case ho => k_is
    intro b0 b1 b2 b3 b4 b5 E
    dsimp only [nthS, forBody] at b0 b1 b2 b3 b4 b5 ⊢
    refine LD.each ?_
    intro h' tk' gens' m' o4 o5 o6 o7 bare hm F' N' e4 e5 e6 e7 off
    replace F' := fr_knownG F' hm
    refine wpAny_For (hs := fun _ => rfl) ?_
    k_steps
    refine stop_in ?_
    rename IsRange _ _ _ _ _ _ _ _ => rg
    rename Fr s.heap L' _ _ => F7
    rename News s.heap L' _ _ => N7
    obtain ⟨r1, r2⟩ := rng_down hx0 hx1
    refine wpAny_pyIter_range rg r1 ?_
    rw [r2]
    (try dsimp only)
    have hI := fun tk => LD.ofIter (a := x) (c := -1) (n := ((x.toNat + 1 : Nat) : Int)) (tk := tk) bare F7 (fm := (fun m => m (Str.ofString "moves") = some (.int x tm))) (by rfl) N7 e4 e5 e6 e7 off
    refine for_rangeD (s := s) (L' := L') (fm := (fun m => m (Str.ofString "moves") = some (.int x tm))) (a := x) (c := -1) (n := x.toNat + 1) (fun i (d : Dt) => d.l = (if (i : Int) ≤ x then x - (i : Int) else 0) ∧ LastOk d.l d.lv) (fun d => some (.ref d.lr)) (fun d => d.v6) (fun d => some (.int d.lv d.tv))
      (fun d => [(d.lr, listOf [.bool (ring0 d.l), .bool (ring1 d.l), .bool (ring2 d.l), .bool (ring3 d.l)].toArray d.nr), (lp, listOf [.str p0 v0, .str p1 v1, .str p2 v2, .str p3 v3].toArray np)]) rfl rfl rfl rfl ?hfm ⟨x, lr, nr, lv, tv, v6⟩ ⟨by show x = _; rw [if_pos (by omega)]; omega, hlast⟩ (hI _).1 (hI 0).2 ?turn ?done
    case hfm => (intro m v hm; exact hm)
    case done =>
      intro d s₂ _ h
      refine ⟨rfl, some (.ref d.lr), d.v6, some (.int d.lv d.tv), ?_⟩
      exact LD.drop h
    case turn =>
      rintro i ⟨l, lr, nr, lv, tv, v6⟩ t oI s₂ hi ⟨hl, hL⟩ hls hD
      dsimp only at hl hL hls hD ⊢
      have hix : (i : Int) ≤ x := by omega
      rw [if_pos hix] at hl
      have h0 : 0 ≤ l := by omega
      have h1 : l < 16 := by omega
      rw [show x + (i : Int) * -1 = l by omega] at hD
      refine seq_seg (b0 l h0 h1 t _ oI lr nr v6 lv tv _ _ hD) fun s₃ h₃ => ?_
      refine seq_seg (b1 l h0 h1 t _ oI lr nr v6 lv tv _ _ h₃) fun s₄ h₄ => ?_
      refine seq_seg (b2 l h0 h1 t _ oI lr nr v6 lv tv _ _ h₄) fun s₅ h₅ => ?_
      refine seq_seg (b3 l h0 h1 t _ oI lr nr v6 lv tv _ _ h₅) fun s₆ h₆ => ?_
      obtain ⟨tw, h₆⟩ := h₆
      refine seq_seg (b4 l h0 h1 t _ oI lr nr v6 lv tv tw _ _ h₆) fun s₇ h₇ => ?_
      refine seq_seg (b5 l h0 h1 t _ oI lr nr v6 lv tv tw hL _ _ h₇) fun s₈ h₈ => ?_
      refine wpAny_execs_nil ⟨rfl, ?_⟩
      rcases h₈ with ⟨hz, h₈⟩ | ⟨hpos, lr', nr', tv', h₈, hne⟩
      · refine ⟨⟨l, lr, nr, lv, tv, v6⟩, ⟨?_, hL⟩, hls, h₈⟩
        show l = _
        rw [if_neg (by push_cast; omega)]; exact hz
      · obtain ⟨e0', e1', e2', e3'⟩ := hstep l h0 h1 hpos
        rw [← e0', ← e1', ← e2', ← e3'] at h₈
        refine ⟨⟨l - 1, lr', nr', nxt l, tv', v6⟩, ⟨?_, ?_⟩, ?_, h₈⟩
        · show l - 1 = _
          rw [if_pos (by push_cast; omega)]; push_cast; omega
        · intro hp
          exact hnext l h0 h1 (by have hp : 0 < l - 1 := hp; omega)
        · intro p hp
          rcases List.mem_cons.mp hp with rfl | hp
          · exact Ne.symm hne
          · exact hls p (.tail _ hp)
  intro oc od name qual params body scope dV kV doc pm an cdv ct osl ho
  exact key _ _ _ _ _ _ _ _ _ _ _ _ _ _ _ ho (fun l h0 h1 tl IT oI lr nr v6 lv tv => segB0 w mean mg mb s L' x l h0 h1 tm tl IT oI lr nr v6 lv tv p0 p1 p2 p3 v0 v1 v2 v3 lp np hp0 hp1 hp2 hp3 X T B _ _ _ _ _ _ _ _ _ _ _ _ _ _ _ ho) (fun l h0 h1 tl IT oI lr nr v6 lv tv => segB1 w mean mg mb s L' x l h0 h1 tm tl IT oI lr nr v6 lv tv p0 p1 p2 p3 v0 v1 v2 v3 lp np hp0 hp1 hp2 hp3 (hTold l h0 h1) X T B _ _ _ _ _ _ _ _ _ _ _ _ _ _ _ ho) (fun l h0 h1 tl IT oI lr nr v6 lv tv => segB2 w mean mg mb s L' x l h0 h1 tm tl IT oI lr nr v6 lv tv p0 p1 p2 p3 v0 v1 v2 v3 lp np hp0 hp1 hp2 hp3 (hOpen l h0 h1) X T B _ _ _ _ _ _ _ _ _ _ _ _ _ _ _ ho) (fun l h0 h1 tl IT oI lr nr v6 lv tv => segB3 w mean mg mb s L' x l h0 h1 tm tl IT oI lr nr v6 lv tv p0 p1 p2 p3 v0 v1 v2 v3 lp np hp0 hp1 hp2 hp3 c0 c1 c2 c3 q0 q1 q2 q3 i0 i1 i2 i3 e0 e1 e2 e3 u0 u1 u2 u3 X T B _ _ _ _ _ _ _ _ _ _ _ _ _ _ _ ho) (fun l h0 h1 tl IT oI lr nr v6 lv tv tw => segB4 w mean mg mb s L' x l h0 h1 tm tl IT oI lr nr v6 lv tv p0 p1 p2 p3 v0 v1 v2 v3 lp np hp0 hp1 hp2 hp3 _ _ tw rfl (hlow l h0 h1) (hlev l h0 h1) X T B _ _ _ _ _ _ _ _ _ _ _ _ _ _ _ ho) (fun l h0 h1 tl IT oI lr nr v6 lv tv tw hL => segB5 w mean mg mb s L' x l h0 h1 tm tl IT oI lr nr v6 lv tv p0 p1 p2 p3 v0 v1 v2 v3 lp np hp0 hp1 hp2 hp3 c0 c1 c2 c3 q0 q1 q2 q3 i0 i1 i2 i3 e0 e1 e2 e3 u0 u1 u2 u3 (nxt l) tw hL (hn0 l) (hn1 l) (hlev1 l h0 h1) X T B _ _ _ _ _ _ _ _ _ _ _ _ _ _ _ ho)
  k_with_none
end

end

section
/-- the k-th letter, small and great -/
noncomputable abbrev cK (d : Int) (k : Nat) : Nat := 97 + (letF d k).toNat
noncomputable abbrev eK (d : Int) (k : Nat) : Nat := 65 + (letF d k).toNat
theorem nxt_lo (l : Int) : 0 ≤ nxt l := by unfold nxt; split; decide; split; decide; split <;> decide
theorem nxt_hi (l : Int) : nxt l < 4 := by unfold nxt; split; decide; split; decide; split <;> decide
theorem p_step (l : Int) (h0 : 0 ≤ l) (h1 : l < 16) (hp : 0 < l) : ring0 (l - 1) = chg 0 (nxt l) (ring0 l) ∧ ring1 (l - 1) = chg 1 (nxt l) (ring1 l) ∧ ring2 (l - 1) = chg 2 (nxt l) (ring2 l) ∧ ring3 (l - 1) = chg 3 (nxt l) (ring3 l) := by
  have key : ∀ n : Nat, n < 16 → 0 < n → ring0 ((n : Int) - 1) = chg 0 (nxt n) (ring0 n) ∧ ring1 ((n : Int) - 1) = chg 1 (nxt n) (ring1 n) ∧ ring2 ((n : Int) - 1) = chg 2 (nxt n) (ring2 n) ∧ ring3 ((n : Int) - 1) = chg 3 (nxt n) (ring3 n) := by decide +kernel
  have := key l.toNat (by omega) (by omega)
  rwa [Int.toNat_of_nonneg h0] at this
theorem head_of {l : List Int} {a : Int} (h : l.head? = some a) : ∃ r, l = a :: r := by
  cases l with
  | nil => cases h
  | cons b r => exact ⟨r, by cases h; rfl⟩
theorem p_next (l : Int) (h0 : 0 ≤ l) (h1 : l < 16) (hp : 1 < l) : ∃ r, (freeL (ring1 (l - 1)) (ring2 (l - 1)) (ring3 (l - 1))).filter (fun k => k != nxt l) = nxt (l - 1) :: r := by
  have key : ∀ n : Nat, n < 16 → 1 < n → ((freeL (ring1 ((n : Int) - 1)) (ring2 ((n : Int) - 1)) (ring3 ((n : Int) - 1))).filter (fun k => k != nxt n)).head? = some (nxt ((n : Int) - 1)) := by decide +kernel
  have := key l.toNat (by omega) (by omega)
  rw [Int.toNat_of_nonneg h0] at this
  exact head_of this
theorem p_last (x v : Int) (h0 : 0 ≤ x) (h1 : x < 16) (e0 : (cnt4 (ring0 x) (ring1 x) (ring2 x) (ring3 x)).fmod 2 = 0 → v = 3) (e1 : (cnt4 (ring0 x) (ring1 x) (ring2 x) (ring3 x)).fmod 2 ≠ 0 → v = -1) : LastOk x v := by
  intro hp
  have key : ∀ n : Nat, n < 16 → 0 < n → ((freeL (ring1 n) (ring2 n) (ring3 n)).filter (fun k => k != (if (cnt4 (ring0 n) (ring1 n) (ring2 n) (ring3 n)).fmod 2 = 0 then (3 : Int) else -1))).head? = some (nxt n) := by decide +kernel
  have := key x.toNat (by omega) (by omega)
  rw [Int.toNat_of_nonneg h0] at this
  refine head_of ?_
  by_cases h : (cnt4 (ring0 x) (ring1 x) (ring2 x) (ring3 x)).fmod 2 = 0
  · rw [e0 h]; rw [if_pos h] at this; exact this
  · rw [e1 h]; rw [if_neg h] at this; exact this
end

section
noncomputable def mkQ (b : Bool) : List Tk := if b = true then [none] else []
section
variable {b0 b1 b2 b3 : Bool} {p0 p1 p2 p3 c y : Str} {q0 q1 q2 q3 : List Nat}
theorem qm_text (b : Bool) : (qm b).cps.toList = tkText (mkQ b) := by cases b <;> decide
theorem tk_app : ∀ a b : List Tk, tkText (a ++ b) = tkText a ++ tkText b
  | [], b => rfl
  | some q :: r, b => by rw [List.cons_append, tkText, tkText, tk_app r, List.append_assoc]
  | none :: r, b => by rw [List.cons_append, tkText, tkText, tk_app r, List.cons_append]
noncomputable abbrev toks4 (b0 b1 b2 b3 : Bool) (q0 q1 q2 q3 : List Nat) (tail : List Tk) : List Tk := mkQ b0 ++ some q0 :: (mkQ b1 ++ some q1 :: (mkQ b2 ++ some q2 :: (mkQ b3 ++ some q3 :: tail)))
theorem told_text {tail : List Tk} (h0 : p0.cps.toList = q0) (h1 : p1.cps.toList = q1) (h2 : p2.cps.toList = q2) (h3 : p3.cps.toList = q3) (hy : y.cps.toList = tkText tail) :
    (Txt.join (Str.ofString "") (toldL b0 b1 b2 b3 p0 p1 p2 p3) ++ y).cps.toList = tkText (toks4 b0 b1 b2 b3 q0 q1 q2 q3 tail) := by
  rw [PySem.Str.cps_append, Array.toList_append, join_flat, hy]
  simp only [toldL, flat, List.map_cons, List.map_nil, List.flatten_cons, List.flatten_nil, List.append_nil, PySem.Str.cps_append, Array.toList_append, qm_text, h0, h1, h2, h3, toks4, tk_app, tkText, List.append_assoc]
theorem toks_piece {tail : List Tk} (g0 : IsPiece q0) (g1 : IsPiece q1) (g2 : IsPiece q2) (g3 : IsPiece q3) (ht : ∀ q, some q ∉ tail) : ∀ q, some q ∈ toks4 b0 b1 b2 b3 q0 q1 q2 q3 tail → IsPiece q := by
  have hm : ∀ (b : Bool) (q : List Nat), some q ∉ mkQ b := fun b q => by cases b <;> simp [mkQ]
  intro q hq
  simp only [toks4, List.mem_append, List.mem_cons, hm, ht, false_or, or_false, Option.some.injEq] at hq
  rcases hq with rfl | rfl | rfl | rfl <;> assumption
theorem told_res {tail : List Tk} (h0 : p0.cps.toList = q0) (h1 : p1.cps.toList = q1) (h2 : p2.cps.toList = q2) (h3 : p3.cps.toList = q3) (g0 : IsPiece q0) (g1 : IsPiece q1) (g2 : IsPiece q2) (g3 : IsPiece q3) (hy : (Txt.mul c ((cnt4 b0 b1 b2 b3).fmod 2)).cps.toList = tkText tail) (ht : ∀ q, some q ∉ tail) :
    (toldF b0 b1 b2 b3 c p0 p1 p2 p3).cps.toList = resK none [] (toks4 b0 b1 b2 b3 q0 q1 q2 q3 tail) :=
  strip_is _ (told_text h0 h1 h2 h3 hy) (toks_piece g0 g1 g2 g3 ht)
noncomputable def ifL (b : Bool) (q : List Nat) : List Nat := if b = true then q else []
theorem due_list (n : Int) (h0 : p0.cps.toList = q0) (h1 : p1.cps.toList = q1) (h2 : p2.cps.toList = q2) (h3 : p3.cps.toList = q3) :
    (dueF n p0 p1 p2 p3).cps.toList = ifL (bitZ n 8) q0 ++ (ifL (bitZ n 4) q1 ++ (ifL (bitZ n 2) q2 ++ ifL (bitZ n 1) q3)) := by
  unfold dueF
  rw [join_flat]
  cases bitZ n 8 <;> cases bitZ n 4 <;> cases bitZ n 2 <;> cases bitZ n 1 <;> simp [filtL, flat, ifL, h0, h1, h2, h3]
/-- how many moves are left where these rings are on -/
noncomputable def rank (b0 b1 b2 b3 : Bool) : Int := (if b0 then 8 else 0) + (if xor b0 b1 then 4 else 0) + (if xor (xor b0 b1) b2 then 2 else 0) + (if xor (xor (xor b0 b1) b2) b3 then 1 else 0)
theorem mul_text (b0 b1 b2 b3 : Bool) : (Txt.mul (Str.ofString "\"") ((cnt4 b0 b1 b2 b3).fmod 2)).cps.toList = tkText (mkQ (xor (xor (xor b0 b1) b2) b3)) := by
  cases b0 <;> cases b1 <;> cases b2 <;> cases b3 <;> decide +kernel
theorem mul_text0 (b0 b1 b2 b3 : Bool) : (Txt.mul (Str.ofString "") ((cnt4 b0 b1 b2 b3).fmod 2)).cps.toList = tkText [] := by
  cases b0 <;> cases b1 <;> cases b2 <;> cases b3 <;> decide +kernel
theorem rank_bits (b0 b1 b2 b3 : Bool) : bitZ (rank b0 b1 b2 b3) 8 = !b0 ∧ bitZ (rank b0 b1 b2 b3) 4 = !(xor b0 b1) ∧ bitZ (rank b0 b1 b2 b3) 2 = !(xor (xor b0 b1) b2) ∧ bitZ (rank b0 b1 b2 b3) 1 = !(xor (xor (xor b0 b1) b2) b3) := by
  cases b0 <;> cases b1 <;> cases b2 <;> cases b3 <;> decide +kernel
theorem told_due (h0 : p0.cps.toList = q0) (h1 : p1.cps.toList = q1) (h2 : p2.cps.toList = q2) (h3 : p3.cps.toList = q3) (g0 : IsPiece q0) (g1 : IsPiece q1) (g2 : IsPiece q2) (g3 : IsPiece q3) :
    toldF b0 b1 b2 b3 (Str.ofString "\"") p0 p1 p2 p3 = dueF (rank b0 b1 b2 b3) p0 p1 p2 p3 := by
  apply str_ext
  rw [told_res h0 h1 h2 h3 g0 g1 g2 g3 (mul_text b0 b1 b2 b3) (fun q => by cases (xor (xor (xor b0 b1) b2) b3) <;> simp [mkQ]), due_list _ h0 h1 h2 h3]
  obtain ⟨e0, e1, e2, e3⟩ := rank_bits b0 b1 b2 b3
  rw [e0, e1, e2, e3]
  cases b0 <;> cases b1 <;> cases b2 <;> cases b3 <;> simp [toks4, mkQ, resK, ifL]
theorem told_open (h0 : p0.cps.toList = q0) (h1 : p1.cps.toList = q1) (h2 : p2.cps.toList = q2) (h3 : p3.cps.toList = q3) (g0 : IsPiece q0) (g1 : IsPiece q1) (g2 : IsPiece q2) (g3 : IsPiece q3) (hodd : (xor (xor (xor b0 b1) b2) b3) = true) :
    toldF b0 b1 b2 b3 (Str.ofString "") p0 p1 p2 p3 = openF (rank b0 b1 b2 b3) b1 b2 b3 p0 p1 p2 p3 := by
  apply str_ext
  rw [told_res h0 h1 h2 h3 g0 g1 g2 g3 (mul_text0 b0 b1 b2 b3) (fun q => by simp)]
  obtain ⟨e0, e1, e2, e3⟩ := rank_bits b0 b1 b2 b3
  unfold openF
  rw [join_flat]
  unfold openL
  rw [e0, e1, e2]
  have hq : (Str.ofString "\"").cps.toList = [34] := by decide
  revert hodd
  cases b0 <;> cases b1 <;> cases b2 <;> cases b3 <;> simp [toks4, mkQ, resK, flat, filtL, h0, h1, h2, h3, hq]
end
theorem piece_of {l : Nat} (hl : l < 26) {b : Str} (hb : b = Str.ofString "" ∨ b = Str.ofString "\\\"" ∨ b = Str.ofString "\\\\") : IsPiece ((⟨#[97 + l]⟩ : Str) ++ b).cps.toList := by
  rw [PySem.Str.cps_append, Array.toList_append]
  refine ⟨97 + l, by omega, by omega, ?_⟩
  rcases hb with rfl | rfl | rfl
  · exact .inl (by rw [show (Str.ofString "").cps.toList = [] by decide, List.append_nil])
  · exact .inr (.inl (by rw [show (Str.ofString "\\\"").cps.toList = [92, 34] by decide]; rfl))
  · exact .inr (.inr (by rw [show (Str.ofString "\\\\").cps.toList = [92, 92] by decide]; rfl))
theorem pieK_is (d0 d1 : Int) (k : Nat) : IsPiece (pieK d0 d1 k).cps.toList := piece_of (by have := letF_rng d0 k; omega) (behK_is d1 k)
theorem rank_ring {l : Int} (h0 : 0 ≤ l) (h1 : l < 16) : rank (ring0 l) (ring1 l) (ring2 l) (ring3 l) = l := by
  have key : ∀ n : Nat, n < 16 → rank (ring0 n) (ring1 n) (ring2 n) (ring3 n) = n := by decide +kernel
  have := key l.toNat (by omega)
  rwa [Int.toNat_of_nonneg h0] at this
theorem cnt_odd (b0 b1 b2 b3 : Bool) (h : (cnt4 b0 b1 b2 b3).fmod 2 = 1) : (xor (xor (xor b0 b1) b2) b3) = true ∧ (b0 || b1 || b2 || b3) = true := by
  revert h; cases b0 <;> cases b1 <;> cases b2 <;> cases b3 <;> decide +kernel
theorem q_told (d0 d1 l : Int) (h0 : 0 ≤ l) (h1 : l < 16) : toldF (ring0 l) (ring1 l) (ring2 l) (ring3 l) (Str.ofString "\"") (pieK d0 d1 0) (pieK d0 d1 1) (pieK d0 d1 2) (pieK d0 d1 3) = dueF l (pieK d0 d1 0) (pieK d0 d1 1) (pieK d0 d1 2) (pieK d0 d1 3) := by
  rw [told_due rfl rfl rfl rfl (pieK_is _ _ _) (pieK_is _ _ _) (pieK_is _ _ _) (pieK_is _ _ _), rank_ring h0 h1]
theorem q_open (d0 d1 l : Int) (h0 : 0 ≤ l) (h1 : l < 16) (h : (cnt4 (ring0 l) (ring1 l) (ring2 l) (ring3 l)).fmod 2 = 1) : (ring0 l || ring1 l || ring2 l || ring3 l) = true ∧
    toldF (ring0 l) (ring1 l) (ring2 l) (ring3 l) (Str.ofString "") (pieK d0 d1 0) (pieK d0 d1 1) (pieK d0 d1 2) (pieK d0 d1 3) = openF l (ring1 l) (ring2 l) (ring3 l) (pieK d0 d1 0) (pieK d0 d1 1) (pieK d0 d1 2) (pieK d0 d1 3) := by
  obtain ⟨e1, e2⟩ := cnt_odd _ _ _ _ h
  refine ⟨e2, ?_⟩
  rw [told_open rfl rfl rfl rfl (pieK_is _ _ _) (pieK_is _ _ _) (pieK_is _ _ _) (pieK_is _ _ _) e1, rank_ring h0 h1]
end
section
theorem letF_mod (d : Int) (k : Nat) : letF d k = (d.fdiv 12 + k) % 26 := by unfold letF; rw [Int.fmod_eq_emod_of_nonneg _ (by decide)]
theorem cK_ne {d : Int} {i j : Nat} (hi : i < 4) (hj : j < 4) (h : i ≠ j) : cK d i ≠ cK d j := by
  unfold cK
  rw [letF_mod, letF_mod]
  omega
/-- the letter of a piece, and what may stand behind it -/
noncomputable def PieceL (c : Nat) (q : List Nat) : Prop := c ≠ 34 ∧ c ≠ 92 ∧ (q = [c] ∨ q = [c, 92, 34] ∨ q = [c, 92, 92])
theorem pieK_L (d0 d1 : Int) (k : Nat) : PieceL (cK d0 k) (pieK d0 d1 k).cps.toList := by
  have h := letF_rng d0 k
  refine ⟨by unfold cK; omega, by unfold cK; omega, ?_⟩
  unfold pieK
  rw [PySem.Str.cps_append, Array.toList_append]
  rcases behK_is d1 k with hb | hb | hb
  · rw [hb]; exact .inl (by rw [show (Str.ofString "").cps.toList = [] by decide, List.append_nil])
  · rw [hb]; exact .inr (.inl (by rw [show (Str.ofString "\\\"").cps.toList = [92, 34] by decide]; rfl))
  · rw [hb]; exact .inr (.inr (by rw [show (Str.ofString "\\\\").cps.toList = [92, 92] by decide]; rfl))
theorem mem_piece {c a : Nat} {q : List Nat} (h : PieceL c q) (a1 : a ≠ 34) (a2 : a ≠ 92) : a ∈ q ↔ a = c := by
  obtain ⟨_, _, h⟩ := h
  rcases h with rfl | rfl | rfl <;> simp [a1, a2]
theorem mem_ifL {c a : Nat} {q : List Nat} {b : Bool} (h : PieceL c q) (a1 : a ≠ 34) (a2 : a ≠ 92) : a ∈ ifL b q ↔ b = true ∧ a = c := by
  unfold ifL
  cases b
  · simp
  · simp [mem_piece h a1 a2]
section
variable {q0 q1 q2 q3 : List Nat} {c0 c1 c2 c3 : Nat} {z0 z1 z2 z3 y0 y1 y2 y3 : Bool}
theorem bits_inj (g0 : PieceL c0 q0) (g1 : PieceL c1 q1) (g2 : PieceL c2 q2) (g3 : PieceL c3 q3) (n01 : c0 ≠ c1) (n02 : c0 ≠ c2) (n03 : c0 ≠ c3) (n12 : c1 ≠ c2) (n13 : c1 ≠ c3) (n23 : c2 ≠ c3)
    (h : ifL z0 q0 ++ (ifL z1 q1 ++ (ifL z2 q2 ++ ifL z3 q3)) = ifL y0 q0 ++ (ifL y1 q1 ++ (ifL y2 q2 ++ ifL y3 q3))) : z0 = y0 ∧ z1 = y1 ∧ z2 = y2 ∧ z3 = y3 := by
  have mem : ∀ (a : Nat), a ≠ 34 → a ≠ 92 → ∀ b0 b1 b2 b3 : Bool, a ∈ ifL b0 q0 ++ (ifL b1 q1 ++ (ifL b2 q2 ++ ifL b3 q3)) ↔ (b0 = true ∧ a = c0) ∨ (b1 = true ∧ a = c1) ∨ (b2 = true ∧ a = c2) ∨ (b3 = true ∧ a = c3) := by
    intro a a1 a2 b0 b1 b2 b3
    rw [List.mem_append, List.mem_append, List.mem_append, mem_ifL g0 a1 a2, mem_ifL g1 a1 a2, mem_ifL g2 a1 a2, mem_ifL g3 a1 a2]
  have go : ∀ a, a ≠ 34 → a ≠ 92 → (((z0 = true ∧ a = c0) ∨ (z1 = true ∧ a = c1) ∨ (z2 = true ∧ a = c2) ∨ (z3 = true ∧ a = c3)) ↔ ((y0 = true ∧ a = c0) ∨ (y1 = true ∧ a = c1) ∨ (y2 = true ∧ a = c2) ∨ (y3 = true ∧ a = c3))) := fun a a1 a2 => by
    rw [← mem a a1 a2, h, mem a a1 a2]
  have k0 := go c0 g0.1 g0.2.1
  have k1 := go c1 g1.1 g1.2.1
  have k2 := go c2 g2.1 g2.2.1
  have k3 := go c3 g3.1 g3.2.1
  simp only [n01, n02, n03, n12, n13, n23, Ne.symm n01, Ne.symm n02, Ne.symm n03, Ne.symm n12, Ne.symm n13, Ne.symm n23, and_true, and_false, or_false, false_or] at k0 k1 k2 k3
  exact ⟨Bool.eq_iff_iff.mpr k0, Bool.eq_iff_iff.mpr k1, Bool.eq_iff_iff.mpr k2, Bool.eq_iff_iff.mpr k3⟩
end
theorem bits_num {r n : Int} (r0 : 0 ≤ r) (r1 : r < 16) (n0 : 0 ≤ n) (n1 : n < 16) (h : bitZ r 8 = bitZ n 8 ∧ bitZ r 4 = bitZ n 4 ∧ bitZ r 2 = bitZ n 2 ∧ bitZ r 1 = bitZ n 1) : r = n := by
  have key : ∀ a : Nat, a < 16 → ∀ b : Nat, b < 16 → (bitZ a 8 = bitZ b 8 ∧ bitZ a 4 = bitZ b 4 ∧ bitZ a 2 = bitZ b 2 ∧ bitZ a 1 = bitZ b 1) → a = b := by decide +kernel
  have := key r.toNat (by omega) n.toNat (by omega)
  rw [Int.toNat_of_nonneg r0, Int.toNat_of_nonneg n0] at this
  have := this h
  omega
theorem due_inj {d0 d1 r n : Int} (r0 : 0 ≤ r) (r1 : r < 16) (n0 : 0 ≤ n) (n1 : n < 16) :
    (dueF r (pieK d0 d1 0) (pieK d0 d1 1) (pieK d0 d1 2) (pieK d0 d1 3) == dueF n (pieK d0 d1 0) (pieK d0 d1 1) (pieK d0 d1 2) (pieK d0 d1 3)) = decide (r = n) := by
  by_cases h : r = n
  · subst h; simp
  · rw [decide_eq_false h]
    refine beq_eq_false_iff_ne.mpr fun e => h ?_
    have e2 := congrArg (fun a : Str => a.cps.toList) e
    rw [due_list r rfl rfl rfl rfl, due_list n rfl rfl rfl rfl] at e2
    exact bits_num r0 r1 n0 n1 (bits_inj (pieK_L _ _ 0) (pieK_L _ _ 1) (pieK_L _ _ 2) (pieK_L _ _ 3) (cK_ne (by decide) (by decide) (by decide)) (cK_ne (by decide) (by decide) (by decide)) (cK_ne (by decide) (by decide) (by decide)) (cK_ne (by decide) (by decide) (by decide)) (cK_ne (by decide) (by decide) (by decide)) (cK_ne (by decide) (by decide) (by decide)) e2)
theorem rank_rng (b0 b1 b2 b3 : Bool) : 0 ≤ rank b0 b1 b2 b3 ∧ rank b0 b1 b2 b3 < 16 := by cases b0 <;> cases b1 <;> cases b2 <;> cases b3 <;> decide
theorem near_is {d0 d1 r n : Int} (r0 : 0 ≤ r) (r1 : r < 16) : nearB n (dueF r (pieK d0 d1 0) (pieK d0 d1 1) (pieK d0 d1 2) (pieK d0 d1 3)) (pieK d0 d1 0) (pieK d0 d1 1) (pieK d0 d1 2) (pieK d0 d1 3) = decide (r = n) := by
  unfold nearB
  by_cases h0 : 0 ≤ n
  · by_cases h1 : n < 16
    · rw [decide_eq_true h0, decide_eq_true h1, due_inj r0 r1 h0 h1]; rfl
    · rw [decide_eq_false h1, Bool.false_and, Bool.and_false, decide_eq_false (by omega)]
  · rw [decide_eq_false h0, Bool.false_and, decide_eq_false (by omega)]
theorem q_near (d0 d1 x : Int) (h0 : 4 ≤ x) (h1 : x < 16) (k : Int) (k0 : 0 ≤ k) (k1 : k < 4) :
    (!decide (nearL x k (ring0 x) (ring1 x) (ring2 x) (ring3 x) (pieK d0 d1 0) (pieK d0 d1 1) (pieK d0 d1 2) (pieK d0 d1 3) = [])) = (freeL (ring1 x) (ring2 x) (ring3 x)).any fun y => y == k := by
  unfold nearL
  rw [told_due rfl rfl rfl rfl (pieK_is _ _ _) (pieK_is _ _ _) (pieK_is _ _ _) (pieK_is _ _ _)]
  obtain ⟨r0, r1⟩ := rank_rng (chg 0 k (ring0 x)) (chg 1 k (ring1 x)) (chg 2 k (ring2 x)) (chg 3 k (ring3 x))
  rw [near_is r0 r1, near_is r0 r1]
  have key : ∀ a : Nat, a < 16 → 4 ≤ a → ∀ b : Nat, b < 4 → (!decide (filtL [(decide (rank (chg 0 b (ring0 a)) (chg 1 b (ring1 a)) (chg 2 b (ring2 a)) (chg 3 b (ring3 a)) = (a : Int) - 1), (a : Int) - 1), (decide (rank (chg 0 b (ring0 a)) (chg 1 b (ring1 a)) (chg 2 b (ring2 a)) (chg 3 b (ring3 a)) = (a : Int) + 1), (a : Int) + 1)] = [])) = (freeL (ring1 a) (ring2 a) (ring3 a)).any fun y => y == (b : Int) := by decide +kernel
  have := key x.toNat (by omega) (by omega) k.toNat (by omega)
  rw [Int.toNat_of_nonneg k0, Int.toNat_of_nonneg (by omega)] at this
  exact this
theorem q_len (d0 d1 : Int) (k : Nat) : (pieK d0 d1 k).length < 10 := by
  rw [len_list rfl]
  obtain ⟨_, _, h⟩ := pieK_L d0 d1 k
  rcases h with h | h | h <;> rw [h] <;> simp
theorem q_pos (d0 d1 : Int) (k : Nat) : 0 < (pieK d0 d1 k).length := by
  rw [len_list rfl]
  obtain ⟨_, _, h⟩ := pieK_L d0 d1 k
  rcases h with h | h | h <;> rw [h] <;> simp
theorem q_item (d0 d1 : Int) (k : Nat) : Txt.item (pieK d0 d1 k) 0 = ⟨#[cK d0 k]⟩ := by
  rw [item_list rfl (by decide) (by have := q_pos d0 d1 k; rw [len_list rfl] at this; omega)]
  obtain ⟨_, _, h⟩ := pieK_L d0 d1 k
  rcases h with h | h | h <;> rw [h] <;> rfl
theorem q_upper (d : Int) (k : Nat) : Txt.upper ⟨#[cK d k]⟩ = ⟨#[eK d k]⟩ := by
  have h := letF_rng d k
  unfold cK eK
  rw [upper_ascii (by intro c hc; simp at hc; omega)]
  simp only [List.map_toArray, List.map_cons, List.map_nil, Str.mk.injEq, Array.mk.injEq, List.cons.injEq, and_true]
  unfold up1
  rw [if_pos (by omega)]
  omega
end

section
noncomputable def subP (x y : Nat) : Int := if x = y then 0 else if lo1 x = lo1 y then 1 else 2
theorem lower1 {c : Nat} (h : c < 128) : Txt.lower ⟨#[c]⟩ = ⟨#[lo1 c]⟩ := by
  rw [lower_ascii (by intro a ha; simp at ha; omega)]
  simp
theorem sgl_inj {a b : Nat} : ((⟨#[a]⟩ : Str) = ⟨#[b]⟩) ↔ a = b := ⟨fun e => by have e2 := congrArg (fun a : Str => a.cps.toList) e; simpa using e2, fun e => by rw [e]⟩
theorem subC_P {x y : Nat} (hx : x < 128) (hy : y < 128) : subC x y = subP x y := by
  unfold subC subP
  rw [lower1 hx, lower1 hy]
  by_cases h : x = y
  · rw [if_pos h, if_pos h]
  · rw [if_neg h, if_neg h]
    by_cases h2 : lo1 x = lo1 y
    · rw [if_pos h2, if_pos (by rw [h2])]
    · rw [if_neg h2, if_neg fun e => h2 (sgl_inj.mp e)]
/-- lvStep, lvRow, lvOut, lvAll with the plain costs -/
noncomputable def gStep (x : List Nat) (c : Nat) (st : Int × Int × Int × List Int) (i : Int) : Int × Int × Int × List Int :=
  let d' := st.2.2.2.getD i.toNat 0
  let id := (if d' < st.2.1 then d' else st.2.1) + 2
  let sub := st.1 + subP c (x.getD i.toNat 0)
  let r' := if sub < id then sub else id
  (d', r', if r' < st.2.2.1 then r' else st.2.2.1, st.2.2.2.set i.toNat r')
noncomputable def gRow (x : List Nat) (c : Nat) (j : Int) (row pre : List Int) : Int × Int × Int × List Int := pre.foldl (gStep x c) (j * 2, j * 2, 9223372036854775807, row)
noncomputable def gOut (x y : List Nat) (mc : Int) (n : Nat) (st : Int × List Int × Bool) (j : Int) : Int × List Int × Bool :=
  let q := gRow x (y.getD j.toNat 0) j st.2.1 (rangeKs 0 n)
  (q.2.1, q.2.2.2, st.2.2 && decide (q.2.2.1 ≤ mc))
noncomputable def gAll (x y : List Nat) (mc : Int) (n : Nat) (pre : List Int) : Int × List Int × Bool := pre.foldl (gOut x y mc n) (0, rangeInts 2 2 n, true)
theorem step_g {x : List Nat} {c : Nat} (hx : ∀ i, x.getD i 0 < 128) (hc : c < 128) : lvStep x c = gStep x c := by
  funext st i
  unfold lvStep gStep
  rw [subC_P hc (hx _)]
theorem all_g {x y : List Nat} (mc : Int) (n : Nat) (pre : List Int) (hx : ∀ i, x.getD i 0 < 128) (hy : ∀ i, y.getD i 0 < 128) : lvAll x y mc n pre = gAll x y mc n pre := by
  unfold lvAll gAll
  rw [show lvOut x y mc n = gOut x y mc n by
    funext st j
    unfold lvOut gOut lvRow gRow
    rw [step_g hx (hy _)]]
noncomputable def preN : List Nat → List Nat → Nat
  | a :: r, b :: t => if a = b then preN r t + 1 else 0
  | _, _ => 0
noncomputable def mid (p m : Nat) (l : List Nat) : List Nat := (l.drop p).take m
noncomputable def chkM (P M N S xs ys : List Nat) (mc v : Int) : Bool :=
  decide (xs = P ++ M ++ S) && decide (ys = P ++ N ++ S) && decide (M.length = N.length) && decide (0 < M.length) && decide (M.getD 0 0 ≠ N.getD 0 0) && decide (M.getD (M.length - 1) 0 ≠ N.getD (N.length - 1) 0) &&
    (gAll M N mc M.length (rangeKs 0 M.length)).2.2 && decide ((gAll M N mc M.length (rangeKs 0 M.length)).1 = v) && decide (0 ≤ mc) && decide (mc < 100) && decide (xs.length ≤ 40) && decide (ys.length ≤ 40) && xs.all (fun c => decide (c < 128)) && ys.all (fun c => decide (c < 128))
noncomputable def chkL (xs ys : List Nat) (mc v : Int) : Bool :=
  let p := preN xs ys
  let m := xs.length - p - preN xs.reverse ys.reverse
  chkM (xs.take p) (mid p m xs) (mid p m ys) (xs.drop (p + m)) xs ys mc v
theorem getD_lt {l : List Nat} (h : ∀ c ∈ l, c < 128) (i : Nat) : l.getD i 0 < 128 := by
  rw [List.getD_eq_getElem?_getD]
  cases e : l[i]? with
  | none => simp
  | some c => exact h c (List.mem_of_getElem? e)
theorem lev_chk {w : World} {xs ys : List Nat} {mc v : Int} {ta tb tc : Tok} {news : List (Addr × Obj)} (h : chkL xs ys mc v = true) :
    Ctr w 20 150 127 [.str ⟨xs.toArray⟩ ta, .str ⟨ys.toArray⟩ tb, .int mc tc] news (RetVal (fun t => .int v t) news) := by
  unfold chkL at h
  dsimp only at h
  generalize xs.take (preN xs ys) = P at h
  generalize mid (preN xs ys) _ xs = M at h
  generalize mid (preN xs ys) _ ys = N at h
  generalize xs.drop _ = S at h
  unfold chkM at h
  simp only [Bool.and_eq_true, decide_eq_true_eq, List.all_eq_true] at h
  obtain ⟨⟨⟨⟨⟨⟨⟨⟨⟨⟨⟨⟨⟨e1, e2⟩, e3⟩, e4⟩, e5⟩, e6⟩, e7⟩, e8⟩, e9⟩, e10⟩, e11⟩, e12⟩, e13⟩, e14⟩ := h
  have hM : ∀ c ∈ M, c < 128 := fun c hc => e13 c (by rw [e1]; simp [hc])
  have hN : ∀ c ∈ N, c < 128 := fun c hc => e14 c (by rw [e2]; simp [hc])
  have hg := all_g mc M.length (rangeKs 0 M.length) (getD_lt hM) (getD_lt hN)
  have hl : ∀ {l : List Nat}, (∀ c ∈ l, c < 128) → ∀ k, Builtin.Str.tooLong (Txt.lower ⟨#[l.getD k 0]⟩).length = false := fun h k => by
    rw [lower1 (getD_lt h k)]; exact (by decide : Builtin.Str.tooLong 1 = false)
  have := c_lev w ⟨xs.toArray⟩ ⟨ys.toArray⟩ P M N S ta tb mc tc (by simpa using e1) (by simpa using e2) (by simpa [Str.length] using e11) (by simpa [Str.length] using e12) e9 e10 e3 e4 e5 (by rw [hg]; exact e7) (hl hM) (hl hN) e6 news
  rw [hg, e8] at this
  exact this
theorem cK_n (d : Int) (k : Nat) : cK d k = 97 + ((letF d 0).toNat + k) % 26 ∧ eK d k = 65 + ((letF d 0).toNat + k) % 26 := by
  have h0 := letF_mod d 0
  have hk := letF_mod d k
  unfold cK eK
  rw [hk, show letF d 0 = (d.fdiv 12 + ((0 : Nat) : Int)) % 26 from h0]
  constructor <;> omega
theorem n_lt (d : Int) : (letF d 0).toNat < 26 := by have := letF_rng d 0; omega
/-- a word's letters -/
noncomputable abbrev wdL (n : Nat) (b0 b1 b2 b3 : Bool) : List Nat := [wc b0 (97 + (n + 0) % 26) (65 + (n + 0) % 26), wc b1 (97 + (n + 1) % 26) (65 + (n + 1) % 26), wc b2 (97 + (n + 2) % 26) (65 + (n + 2) % 26), wc b3 (97 + (n + 3) % 26) (65 + (n + 3) % 26)]
theorem word_n (d : Int) (b0 b1 b2 b3 : Bool) : (⟨#[wc b0 (cK d 0) (eK d 0), wc b1 (cK d 1) (eK d 1), wc b2 (cK d 2) (eK d 2), wc b3 (cK d 3) (eK d 3)]⟩ : Str) = ⟨(wdL (letF d 0).toNat b0 b1 b2 b3).toArray⟩ := by
  rw [(cK_n d 0).1, (cK_n d 0).2, (cK_n d 1).1, (cK_n d 1).2, (cK_n d 2).1, (cK_n d 2).2, (cK_n d 3).1, (cK_n d 3).2]
theorem small_n (d : Int) : (⟨#[cK d 0, cK d 1, cK d 2, cK d 3]⟩ : Str) = ⟨(wdL (letF d 0).toNat false false false false).toArray⟩ := by
  rw [(cK_n d 0).1, (cK_n d 1).1, (cK_n d 2).1, (cK_n d 3).1]; rfl
theorem lev_tab : ∀ n : Nat, n < 26 → ∀ a : Nat, a < 16 → 0 < a → chkL (wdL n (ring0 a) (ring1 a) (ring2 a) (ring3 a)) (wdL n false false false false) (cnt4 (ring0 a) (ring1 a) (ring2 a) (ring3 a)) (cnt4 (ring0 a) (ring1 a) (ring2 a) (ring3 a)) = true := by decide +kernel
theorem lev_tab1 : ∀ n : Nat, n < 26 → ∀ a : Nat, a < 16 → 0 < a → chkL (wdL n (ring0 a) (ring1 a) (ring2 a) (ring3 a)) (wdL n (chg 0 (nxt a) (ring0 a)) (chg 1 (nxt a) (ring1 a)) (chg 2 (nxt a) (ring2 a)) (chg 3 (nxt a) (ring3 a))) 1 1 = true := by decide +kernel
theorem q_low (d l : Int) : Txt.lower ⟨#[wc (ring0 l) (cK d 0) (eK d 0), wc (ring1 l) (cK d 1) (eK d 1), wc (ring2 l) (cK d 2) (eK d 2), wc (ring3 l) (cK d 3) (eK d 3)]⟩ = ⟨#[cK d 0, cK d 1, cK d 2, cK d 3]⟩ := by
  have hc : ∀ k, cK d k < 123 ∧ 97 ≤ cK d k ∧ eK d k + 32 = cK d k := fun k => by have := letF_rng d k; unfold cK eK; omega
  have hw : ∀ b k, wc b (cK d k) (eK d k) < 128 ∧ lo1 (wc b (cK d k) (eK d k)) = cK d k := fun b k => by
    obtain ⟨h1, h2, h3⟩ := hc k
    cases b
    · refine ⟨by show cK d k < 128; omega, ?_⟩
      show lo1 (cK d k) = cK d k
      unfold lo1; rw [if_neg (by omega)]
    · refine ⟨by show eK d k < 128; omega, ?_⟩
      show lo1 (eK d k) = cK d k
      unfold lo1; rw [if_pos (by omega)]; exact h3
  rw [lower_ascii (by
    intro a ha
    simp only [List.mem_cons, List.not_mem_nil, or_false] at ha
    rcases ha with rfl | rfl | rfl | rfl <;> exact (hw _ _).1)]
  simp only [List.map_toArray, List.map_cons, List.map_nil, (hw _ _).2]
theorem q_lev (w : World) (d l : Int) (h0 : 0 ≤ l) (h1 : l < 16) (ta tb tc : Tok) (news : List (Addr × Obj)) : Ctr w 20 150 127 [.str ⟨#[wc (ring0 l) (cK d 0) (eK d 0), wc (ring1 l) (cK d 1) (eK d 1), wc (ring2 l) (cK d 2) (eK d 2), wc (ring3 l) (cK d 3) (eK d 3)]⟩ ta, .str ⟨#[cK d 0, cK d 1, cK d 2, cK d 3]⟩ tb, .int (cnt4 (ring0 l) (ring1 l) (ring2 l) (ring3 l)) tc] news
    (RetVal (fun t => .int (cnt4 (ring0 l) (ring1 l) (ring2 l) (ring3 l)) t) news) := by
  obtain ⟨a, rfl⟩ := Int.eq_ofNat_of_zero_le h0
  by_cases hp : 0 < a
  · rw [word_n, small_n]
    exact lev_chk (lev_tab _ (n_lt d) a (by omega) hp)
  · obtain rfl : a = 0 := by omega
    exact c_lev0 w _ ta tb _ tc news
theorem q_lev1 (w : World) (d l : Int) (h0 : 0 ≤ l) (h1 : l < 16) (hp : 0 < l) (ta tb tc : Tok) (news : List (Addr × Obj)) : Ctr w 20 150 127 [.str ⟨#[wc (ring0 l) (cK d 0) (eK d 0), wc (ring1 l) (cK d 1) (eK d 1), wc (ring2 l) (cK d 2) (eK d 2), wc (ring3 l) (cK d 3) (eK d 3)]⟩ ta,
    .str ⟨#[wc (chg 0 (nxt l) (ring0 l)) (cK d 0) (eK d 0), wc (chg 1 (nxt l) (ring1 l)) (cK d 1) (eK d 1), wc (chg 2 (nxt l) (ring2 l)) (cK d 2) (eK d 2), wc (chg 3 (nxt l) (ring3 l)) (cK d 3) (eK d 3)]⟩ tb, .int 1 tc] news (RetVal (fun t => .int 1 t) news) := by
  obtain ⟨a, rfl⟩ := Int.eq_ofNat_of_zero_le h0
  rw [word_n, word_n]
  exact lev_chk (lev_tab1 _ (n_lt d) a (by omega) (by omega))
end

section
/-- the law's end -/
noncomputable def LawEnd (s : Shared) (v : Value) (s' : Shared) : Prop := v = .bool true ∧ ∃ h' tk' gens', s' = { s with heap := h', gens := gens', toks := tk' } ∧ (AllBare s.gens → AllBare gens') ∧ ∀ b o, s.heap.get? b = some o → h'.get? b = some o
open PySem.Spec PySem.Calls in
theorem cell_intro {K : Frag} {f L : Addr} {goal : Prop} {oc od name qual params body scope dV kV doc pm an cdv ct osl}
    (ho : K.lookup f = some ⟨oc, od, .func (fnOf name qual params body scope dV kV doc pm an cdv ct), osl⟩) (h : (∀ P, CellAt P K f L → P body (envOfC qual scope L f cdv)) → goal) : goal :=
  h fun P hP => hP _ _ _ _ _ _ _ _ _ _ _ _ _ _ _ ho
set_option maxHeartbeats 0 in
theorem c_law (w : World) (mean : ExcName → Option Value) (mg mb : Str → Option Value) (lp : Addr) (vs : List Value) (ns : List Int) (hi : IntsAre vs ns) (hlen : ns.length ≤ 63) (s : Shared) :
    (KF w.params).In s.heap → Top VW (looseW VW lo) mean mg mb s.heap → s.heap.IsList lp vs.toArray → wpAny (model PG w) callerA (call (.ref 178) [.ref lp]) (LawEnd s) (fun _ _ => False) s := by
  k_with "LeaveK" => (k_dflt (refine' leaveM ?hM ?hN ?G ?k1 ?k2 ?sub ?_; (case G => assumption); (case hM => assumption); (case hN => assumption); (case k1 => k_asm); (case k2 => k_asm); (case sub => lcg_sub)); intro kF kN kM; (try dsimp only))
  k_with "CompSrcT" => (k_here; k_dflt (first | (refine LCt.CompSrcT.range (n := 4) (by rfl) (by k_asm) (by k_asm) (by assumption) (by first | decide | rfl) (by first | rfl | decide) (by first | size_fits | exact Nat.le_of_ble_eq_true rfl) ?_; intro g') | (refine LCt.CompSrcT.range (n := 3) (by rfl) (by k_asm) (by k_asm) (by assumption) (by first | decide | rfl) (by first | rfl | decide) (by first | size_fits | exact Nat.le_of_ble_eq_true rfl) ?_; intro g') | (refine LCt.CompSrcT.range (n := 2) (by rfl) (by k_asm) (by k_asm) (by assumption) (by first | decide | rfl) (by first | rfl | decide) (by first | size_fits | exact Nat.le_of_ble_eq_true rfl) ?_; intro g') | (refine LCt.CompSrcT.range (n := 1) (by rfl) (by k_asm) (by k_asm) (by assumption) (by first | decide | rfl) (by first | rfl | decide) (by first | size_fits | exact Nat.le_of_ble_eq_true rfl) ?_; intro g') | (refine LCt.CompSrcT.range (n := 0) (by rfl) (by k_asm) (by k_asm) (by assumption) (by first | decide | rfl) (by first | rfl | decide) (by first | size_fits | exact Nat.le_of_ble_eq_true rfl) ?_; intro g')))
  k_with "CompRestT" => (refine stop_out ?_)
  k_with "TurnT" => (refine TurnT.mk (by first | exact fun _ h => h | lcg_sub) ?_ (by first | exact StrIs.mk | exact IntIs.mk (by first | rfl | decide | omega)); (try dsimp only); first | assumption | (with_unfolding_all exact decide_eq_true (by assumption)) | (simp_all; done))
  k_with "TurnF" => (refine TurnF.mk (by first | exact fun _ h => h | lcg_sub) ?_; (try dsimp only); first | assumption | (with_unfolding_all exact decide_eq_false (by assumption)) | (simp_all; done))
  k_with "eval ListComp" => (k_here; (with_reducible show wpAny _ _ (eval (Expr.ListComp _ _ _ _) _) _ _ _); first | (lct_look; lcg_calm; k_dflt (refine LCt.ListComp_T (F₀ := by k_asm) (by with_unfolding_all rfl) (by decide) (by rfl) (by decide) (by rfl) ?_); k_dflt lct_toSrc) | (lcf_look; lcg_calm; k_dflt (refine LCg.ListComp_U (F₀ := by k_asm) (by with_unfolding_all rfl) (by decide) (by rfl) (by decide) (by rfl) ?_); k_dflt lcg_toSrc) | (lcg_look; lcg_calm; k_dflt (refine LCg.ListComp_U (F₀ := by k_asm) (by rfl) (by decide) (by rfl) (by decide) (by rfl) ?_); k_dflt lcg_toSrc))
  k_with "binaryOp Mult ref int" => (k_here; (with_reducible show wpAny _ _ (binaryOp Operator.Mult (Value.ref _) (Value.int _ _)) _ _ _); k_dflt (refine' KMa.mul ?F ?N ?l ?lo ?hi ?z ?e ?_; (case F => k_asm); (case N => k_asm); (case l => is_list); (case lo => first | omega | decide); (case hi => first | omega | decide); (case z => (simp only [List.length_cons, List.length_nil]; decide)); (case e => (simp only [Int.sub_zero, Int.sub_self, Int.reduceSub, Int.reduceToNat, Int.toNat_zero, List.replicate_succ, List.replicate_zero, List.flatten_cons, List.flatten_nil, List.cons_append, List.nil_append, List.append_nil]; first | done | exact rfl)); k_whole); intro D' h' F' N' l1; (try k_lt l1); (try k_sweep))
  k_with "CompRest" => (refine stop_out ?_)
  k_with "CompEnd" => k_dflt (first | (refine LCg.CompEnd.intro (by assumption) (by assumption) _ (fun _ h => h) (by assumption) (by lcg_src) ?_) | (refine LCg.CompEnd.intro (by assumption) (by assumption) _ (fun _ h => List.Mem.tail _ h) (by assumption) (by lcg_src) ?_))
  k_with "TurnV" => (refine TurnV.mk (fun _ h => h) (by first | exact StrIs.mk | exact IntIs.mk (by first | rfl | decide | omega) | rfl))
  k_with "FinE" => ((unfold LCg.FinE); intro D' h' tk' F' N' o1'; (replace o1' := off1H o1'); (try simp only [List.nil_append, List.cons_append] at N'); (try simp only [List.nil_append, List.cons_append] at o1'); (try dsimp only))
  k_with "FinA" => ((unfold LCg.FinA); intro D' h' tk' F' N' o1'; (replace o1' := off1H o1'); (try simp only [List.nil_append, List.cons_append] at N'); (try simp only [List.nil_append, List.cons_append] at o1'); (try dsimp only))
  k_with "subscriptTail Name Name ref int" => (k_here; (with_reducible show wpAny _ _ (subscriptTail _ _ (Value.ref _) (Value.int _ _)) _ _ _); k_dflt (refine' item_led ?N ?m ?a ?b ?x ?_; (case N => k_asm); (case m => k_mem); (case a => decide); (case b => decide); (case x => exact rfl)))
  k_with "subscriptTail Name Constant ref int" => (k_here; (with_reducible show wpAny _ _ (subscriptTail _ _ (Value.ref _) (Value.int _ _)) _ _ _); k_dflt (refine' item_led ?N ?m ?a ?b ?x ?_; (case N => k_asm); (case m => k_mem); (case a => decide); (case b => decide); (case x => exact rfl)))
  k_with "subscriptTail Name BinOp ref int" => (k_here; (with_reducible show wpAny _ _ (subscriptTail _ _ (Value.ref _) (Value.int _ _)) _ _ _); k_dflt (refine' item_led ?N ?m ?a ?b ?x ?_; (case N => k_asm); (case m => k_mem); (case a => decide); (case b => decide); (case x => exact rfl)))
  k_with "eval Name" => (k_here; (with_reducible show wpAny _ _ (eval (Expr.Name _ _) (compEnvC _ _ _ _)) _ _ _); k_dflt (first | (refine' lcf_cell ?N ?c ?m ?d ?_ ?a ?b; (case b => exact rfl); (case a => exact rfl); (case N => k_asm); (case c => exact rfl); (case m => k_mem); (case d => k_asm)) | (refine' LCgL.ld_own ?N ?m ?h ?x ?_ ?a ?b; (case b => exact rfl); (case a => exact rfl); (case N => k_asm); (case x => with_reducible assumption); (case m => k_mem); (case h => with_reducible assumption))))
  k_with "call ref" => (refine stop_out ?_)
  k_with "LawEnd" => (refine stop_out ?_)
  delta PG lo; k_fill
  intro X T hl
  refine wpAny_call ?_
  k_dflt (refine' enterTop ?k3 ?k5 ?k6 ?k7 ?k8 ?k9 ?kB ?kD ?_ ?c2 ?c3 ?c4; (case k3 => exact X); (case k5 => exact T); (case k6 => k_is); (case k7 => k_is); (case k8 => decide +kernel); (case k9 => first | exact BindsTo.of_eq rfl | exact binds_K (by k_in) rfl (by k_is) rfl rfl rfl); (case kB => exact rfl); (case kD => decide +kernel); (case c2 => exact rfl); (case c3 => exact rfl); (case c4 => exact rfl); k_whole; intro L' h' tk' cells' F' N' Y' B'; have hY := PyProof.Rows.kc_seven Y'; obtain ⟨o1, o2, o3, o4, o5, o6, o7, hE, e1, e2, e3, e4, e5, e6, e7⟩ := hY; subst hE; clear Y'; replace e1 : o1.data = Data.cell none := e1; replace e2 : o2.data = Data.cell none := e2; replace e3 : o3.data = Data.cell none := e3; replace e4 : o4.data = Data.cell none := e4; replace e5 : o5.data = Data.cell none := e5; replace e6 : o6.data = Data.cell none := e6; replace e7 : o7.data = Data.cell none := e7; (try simp only [List.cons_append, List.nil_append] at N'); (try dsimp only); (try k_fold))
  refine' cell_intro (K := KF w.params) (f := 178) (L := L') ?ho ?_
  case ho => k_is
  intro use
  have s0 := use _ (seg0 w mean mg mb s L' lp vs ns hi hlen hl X T B')
  dsimp only [nthS] at s0
  refine seq_seg (s0 _ _ (LA.mk id F' (by rfl) N' (by simp) (by simp) (by simp) (by simp) (by simp) (by simp) (by simp) e7 e6 e5 e4 e3 e2 e1 (fun p hp => nomatch hp) off7_nil)) fun s1' h₁ => ?_
  obtain ⟨d0, d1, d2, td0, td1, td2, ld, nd, hd0, hd1, hd2, h₁⟩ := h₁
  have s1 := use _ (seg1 w mean mg mb s L' d0 d1 d2 td0 td1 td2 ld nd hd0 hd1 hd2 X T B')
  dsimp only [nthS] at s1
  refine seq_seg (s1 _ _ h₁) fun s2' h₂ => ?_
  obtain ⟨tm, h₂⟩ := h₂
  have s2 := use _ (seg2 w mean mg mb s L' d0 d1 d2 td0 td1 td2 ld nd hd0 hd1 hd2 tm X T B')
  dsimp only [nthS] at s2
  refine seq_seg (s2 _ _ h₂) fun s3' h₃ => ?_
  obtain ⟨t0, t1, t2, t3, ll, nl, h₃⟩ := h₃
  have s3 := use _ (seg3 w mean mg mb s L' d0 d1 d2 td0 td1 td2 ld nd hd0 hd1 hd2 tm t0 t1 t2 t3 ll nl X T B')
  dsimp only [nthS] at s3
  refine seq_seg (s3 _ _ h₃) fun s4' h₄ => ?_
  obtain ⟨u0, u1, u2, u3, lb, nb, h₄⟩ := h₄
  have s4 := use _ (seg4 w mean mg mb s L' d0 d1 d2 td0 td1 td2 ld nd hd0 hd1 hd2 tm t0 t1 t2 t3 ll nl u0 u1 u2 u3 lb nb X T B')
  dsimp only [nthS] at s4
  refine seq_seg (s4 _ _ h₄) fun s5' h₅ => ?_
  obtain ⟨v0, v1, v2, v3, lp9, np, h₅⟩ := h₅
  have s5 := use _ (seg5 w mean mg mb s L' d0 d1 d2 td0 td1 td2 ld nd hd0 hd1 hd2 tm t0 t1 t2 t3 ll nl u0 u1 u2 u3 lb nb v0 v1 v2 v3 lp9 np X T B')
  dsimp only [nthS] at s5
  refine seq_seg (s5 _ _ h₅) fun s6' h₆ => ?_
  have hm0 : 0 ≤ d0.fmod 12 := fmod_lo _ (by decide)
  have hm1 : d0.fmod 12 < 12 := fmod_hi _ (by decide)
  have hx0 : 0 ≤ (15 - d0.fmod 12) := by omega
  have hx4 : 4 ≤ (15 - d0.fmod 12) := by omega
  have hx1 : (15 - d0.fmod 12) < 16 := by omega
  have s6 := use _ (seg6 w mean mg mb s L' (15 - d0.fmod 12) hx0 hx1 tm (pieK d0 d1 0) (pieK d0 d1 1) (pieK d0 d1 2) (pieK d0 d1 3) v0 v1 v2 v3 lp9 np (q_len d0 d1 0) (q_len d0 d1 1) (q_len d0 d1 2) (q_len d0 d1 3) X T B')
  dsimp only [nthS] at s6
  refine seq_seg (s6 _ _ h₆) fun s7' h₇ => ?_
  obtain ⟨lr, nr, h₇⟩ := h₇
  have s7 := use _ (seg7 w mean mg mb s L' (15 - d0.fmod 12) tm (pieK d0 d1 0) (pieK d0 d1 1) (pieK d0 d1 2) (pieK d0 d1 3) v0 v1 v2 v3 lp9 np (q_len d0 d1 0) (q_len d0 d1 1) (q_len d0 d1 2) (q_len d0 d1 3) (ring0 (15 - d0.fmod 12)) (ring1 (15 - d0.fmod 12)) (ring2 (15 - d0.fmod 12)) (ring3 (15 - d0.fmod 12)) lr nr X T B')
  dsimp only [nthS] at s7
  refine seq_seg (s7 _ _ h₇) fun s8' h₈ => ?_
  have s8 := use _ (seg8 w mean mg mb s L' (15 - d0.fmod 12) hx0 hx1 tm (pieK d0 d1 0) (pieK d0 d1 1) (pieK d0 d1 2) (pieK d0 d1 3) v0 v1 v2 v3 lp9 np (q_len d0 d1 0) (q_len d0 d1 1) (q_len d0 d1 2) (q_len d0 d1 3) (ring0 (15 - d0.fmod 12)) (ring1 (15 - d0.fmod 12)) (ring2 (15 - d0.fmod 12)) (ring3 (15 - d0.fmod 12)) lr nr (q_near d0 d1 _ hx4 hx1) X T B')
  dsimp only [nthS] at s8
  refine seq_seg (s8 _ _ h₈) fun s9' h₉ => ?_
  obtain ⟨v6, h₉⟩ := h₉
  have s9 := use _ (seg9 w mean mg mb s L' (15 - d0.fmod 12) tm (pieK d0 d1 0) (pieK d0 d1 1) (pieK d0 d1 2) (pieK d0 d1 3) v0 v1 v2 v3 lp9 np (q_len d0 d1 0) (q_len d0 d1 1) (q_len d0 d1 2) (q_len d0 d1 3) (ring0 (15 - d0.fmod 12)) (ring1 (15 - d0.fmod 12)) (ring2 (15 - d0.fmod 12)) (ring3 (15 - d0.fmod 12)) lr nr v6 X T B')
  dsimp only [nthS] at s9
  refine seq_seg (s9 _ _ h₉) fun s10' h₁₀ => ?_
  obtain ⟨lv, tv, hv0, hv1, h₁₀⟩ := h₁₀
  have s10 := use _ (seg10 w mean mg mb s L' (15 - d0.fmod 12) hx0 hx1 tm (pieK d0 d1 0) (pieK d0 d1 1) (pieK d0 d1 2) (pieK d0 d1 3) v0 v1 v2 v3 lp9 np (q_len d0 d1 0) (q_len d0 d1 1) (q_len d0 d1 2) (q_len d0 d1 3) (cK d0 0) (cK d0 1) (cK d0 2) (cK d0 3) (q_pos d0 d1 0) (q_pos d0 d1 1) (q_pos d0 d1 2) (q_pos d0 d1 3) (q_item d0 d1 0) (q_item d0 d1 1) (q_item d0 d1 2) (q_item d0 d1 3) (eK d0 0) (eK d0 1) (eK d0 2) (eK d0 3) (q_upper d0 0) (q_upper d0 1) (q_upper d0 2) (q_upper d0 3) (q_told d0 d1) (q_open d0 d1) (fun l _ _ => q_low d0 l) (q_lev w d0) (q_lev1 w d0) nxt_lo nxt_hi p_step p_next lr nr v6 lv tv (p_last _ _ hx0 hx1 hv0 hv1) X T B')
  dsimp only [nthS] at s10
  refine seq_seg (s10 _ _ h₁₀) fun s11' h₁₁ => ?_
  obtain ⟨c5, c6, c7, h8, tk8, gens8, m8, q4, q5, q6, q7, rfl, bare8, hm8, F8, N8, _⟩ := h₁₁
  clear s0 s1 s2 s3 s4 s5 s6 s7 s8 s9 s10 h₁ h₂ h₃ h₄ h₅ h₆ h₇ h₈ h₉ h₁₀ use F' N'
  k_steps
  refine stop_in ?_
  exact ⟨rfl, _, _, _, rfl, bare8, F8.keep⟩
  k_with_none
end

end Mine
end

section
open PySem PySem.W PyProof.Rows
set_option Elab.async false
set_option maxRecDepth 100000
set_option maxHeartbeats 0
namespace Mine
/-- the law's own looks at its text -/
theorem ws0 : PySem.W.Fast.tw9446332074065402090 Challenge.rw_sh0048_01 = true := by kernel_rfl
theorem ws : Challenge.rw_sh0048_01.wellSaid = true := by
  rw [PySem.W.Fast.te9446332074065402090]
  exact ws0
end Mine
open Mine
set_option maxHeartbeats 0 in
theorem PySem.Challenge.cw_sh0048_01_holds : PySem.Challenge.rw_sh0048_01.Holds := by
  w_on
  refine holds_law ws fun said => ?_
  refine holds_open (q := VW) (loose := lo) (Xt := XT) (XP := XL VW []) (Yf := Hook.obs HK) (Ya := Hook.val HK) (YP := Hook.says HK) (N := 30000) LO (Hook.of HK) (Hook.keeps HK) (fun s e => xl_of s (Bool.and_eq_true_iff.mp e).1) XL.keeps (by rfl) (by rfl) (by rfl) (fun s e => recFacts_of (Bool.and_eq_true_iff.mp e).2) (by rfl) (by assumption) (by decide +kernel) ⟨rfl, rfl, rfl, rfl, rfl, by decide +kernel⟩ ?hw ?hc
  case hw => w_witness2
  case hc =>
    k_fill
    intro w s₀ s₁ mg mb G Y fa o pm cd doc dV kV ho hd hcd hD hmg hg args vals as hpre hlay hrd hwl hlo
    have KX := kIn_of Y
    refine Ground.open G ?_
    intro T B D TE TW
    clear hcd hD B D TE TW ho hd
    wrow_args hpre hlay hrd hwl hlo
    rename IntsAre _ _ => hI
    rename Heap.IsList _ _ _ => hL
    rename ¬ ((63 : Nat) : Int) < _ => hlen
    have e := mg_of KX T.g (n := Str.ofString "law") (v := .ref 178) (by first | rfl | decide +kernel)
    have e2 : mg (Str.ofString "law") = some (.ref fa) := hmg
    rw [e] at e2
    cases e2
    refine wpAny_mono (c_law w _ mg mb _ _ _ hI (by omega) s₁ KX T hL) ?_ fun _ _ h => h.elim
    rintro v s' ⟨rfl, h', tk', gens', rfl, bare, keep⟩
    exact ⟨.inl ⟨.bool true, .bool true, [], rfl, raisesW_false (by wrow_none_raised), .bool true, (by wrow_post), fun _ => ⟨List.nodup_nil, fun _ h => nomatch h⟩⟩, .of_keep keep, rfl, bare (AllBare.of_eq hg)⟩
end
